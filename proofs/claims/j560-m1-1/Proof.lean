import JvmDerived
import JvmDerived.Pilot.@@N@@Statement
import JvmDerived.Pilot.@@N@@Code
set_option linter.unusedVariables false
set_option linter.unusedSimpArgs false
namespace Jvm.RoadKit
open Sem ClassFile Op Lib Jvm.Stand Jvm.Free Jvm.LawKit
section New
variable {p : Program} {l : Launch} {e : Env} {R : Room} {s : State} {m : MethodId} {args : Array Value} {below : List Frame} {meth : Method} {c : Code} {T : State} {locs : List Loc} {cells slots : Nat}
theorem retI (X : Stand p l e R s m args below meth c T locs cells slots) (hx : p.tables.exec = Jvm.exec) {pc : Nat} {Ls : Array Slot} {z : Int32} {rest : List Value} (hret : meth.sig.returnType = some .int) (hd : decode c.code pc = .ok (.ireturn, 1)) {fs : List Frame}
    (hl : ∀ (f : JFrame) (acts : List Action), f.method = m → f.locked = none → f.entered = [] → (doReturn e (T.setTop f) acts (some (.int z))).1 = T.setFrames fs) : Steps p.tables e below (T.setTop (mkF m pc Ls (.int z :: rest))) (T.setFrames fs) := by
  have hm' : T.vm.method? m = some meth := X.method'
  have hn : narrow .int (.int z) = .int z := rfl
  show Steps p.tables e below (T.setTop { method := m, pc := pc, locals := Ls, stack := _ :: rest, locked := none }) _
  jvm_step X.here [X.here.top, hx, hd, hm', hret, hn]
  first | (intro acts; rw [hl _ acts rfl rfl rfl]) | rw [hl _ _ rfl rfl rfl]
  exact Steps.refl _
end New
end Jvm.RoadKit
/- laws to paste: Road.backV, Road.lenW, Road.empW, Road.codOf, Road.wide_lo, Road.wide_hi, pair_says, shr1, shr0, chr8_lo8, Road.low_at (cut by pick.py; bodies as the Statement names them) -/
namespace Jvm.Pilot.@@N@@
namespace StrChars
open Jvm Sem ClassFile Op Lib Jvm.Stand Jvm.Free.XT Jvm.Free.ALB Jvm.Free.JM Jvm.Free
open Jvm.Lib.Cold (StaticIs)
/-- a char array whose places are chars -/
def Ch (a : Addr) (A : Cell) (U : State) : Prop := Arr .char a A U ∧ Typed .char A
theorem Ch.mv {a : Addr} {A : Cell} {U U' : State} (h : Ch a A U) (hal : U.vm.Alike U'.vm) (hh : U'.heap = U.heap) : Ch a A U' := ⟨h.1.mv hal hh, h.2⟩
theorem Ch.keep {a : Addr} {A : Cell} {U U' : State} (h : Ch a A U) (hal : U.vm.Alike U'.vm) (hk : U'.heap[a]? = some A) : Ch a A U' := ⟨h.1.keep hal hk, h.2⟩
/-- what place i of a char[]'s cell holds -/
def cv (A : Cell) (i : Nat) : Int32 := match A.slots[i]? with | some (.int x) => x | _ => 0
theorem Ch.get {a : Addr} {A : Cell} {U : State} (h : Ch a A U) {i : Nat} (hi : i < A.slots.size) : A.slots[i]? = some (.int (cv A i)) := by
  have e := Array.getElem?_eq_getElem hi
  have f := h.2 i _ e
  unfold cv; rw [e]
  generalize A.slots[i] = v at f
  cases v <;> simp [fits] at f ⊢
/-- the byte that i2b leaves of a char -/
def lo8 (x : Int32) : Int32 := x.toInt8.toInt32
theorem fits_lo8 (y : Int32) : fits .byte (.int (lo8 y)) = true := by
  have h1 := y.toInt8.le_toInt
  have h2 := y.toInt8.toInt_lt
  simp only [lo8, fits, Bool.and_eq_true, decide_eq_true_eq, Int32.le_iff_toInt_le, Int8.toInt_toInt32, show (-128 : Int32).toInt = -128 from by decide, show (127 : Int32).toInt = 127 from by decide]
  omega
/-- A' is A but that each place j of lo .. hi - 1 holds f j -/
def Laid (A A' : Cell) (lo hi : Nat) (f : Nat → Value) : Prop := A'.cls = A.cls ∧ A'.vm = A.vm ∧ A'.slots.size = A.slots.size ∧ ∀ i, A'.slots[i]? = if lo ≤ i ∧ i < hi then some (f i) else A.slots[i]?
theorem Laid.zero (A : Cell) (lo : Nat) (f : Nat → Value) : Laid A A lo (lo + 0) f := ⟨rfl, rfl, rfl, fun i => by rw [if_neg (by omega)]⟩
theorem Laid.step {A Ak : Cell} {lo k : Nat} {f : Nat → Value} {v : Value} (h : Laid A Ak lo k f) (hlo : lo ≤ k) (hk : k < Ak.slots.size) (hv : v = f k) : Laid A (Ak.setSlot k v) lo (k + 1) f := by
  refine ⟨h.1, h.2.1, by simpa [Cell.setSlot] using h.2.2.1, fun i => ?_⟩
  by_cases e : k = i
  · subst e; rw [Cell.slots_setSlot_self v hk, if_pos (by omega), hv]
  · rw [Cell.slots_setSlot_ne v e, h.2.2.2 i]
    by_cases q : lo ≤ i ∧ i < k
    · rw [if_pos q, if_pos (by omega)]
    · rw [if_neg q, if_neg (by omega)]
def U16 : String := "java/lang/StringUTF16"
namespace Cmp5
def yN : MethodName := ⟨"java/lang/StringUTF16", "compress", "([CI[BII)I"⟩
abbrev yB : ByteArray := jdk_52_method_21_code
theorem d0 : decode yB 0 = .ok (.iconst 0, 1) := by decide +kernel
theorem d1 : decode yB 1 = .ok (.istore 5, 2) := by decide +kernel
theorem d3 : decode yB 3 = .ok (.iload 5, 2) := by decide +kernel
theorem d5 : decode yB 5 = .ok (.iload 4, 2) := by decide +kernel
theorem d7 : decode yB 7 = .ok (.if_icmp (.ge) 37, 3) := by decide +kernel
theorem d10 : decode yB 10 = .ok (.aload_n 0, 1) := by decide +kernel
theorem d11 : decode yB 11 = .ok (.iload_n 1, 1) := by decide +kernel
theorem d12 : decode yB 12 = .ok (.caload, 1) := by decide +kernel
theorem d13 : decode yB 13 = .ok (.istore 6, 2) := by decide +kernel
theorem d15 : decode yB 15 = .ok (.iload 6, 2) := by decide +kernel
theorem d17 : decode yB 17 = .ok (.sipush 255, 3) := by decide +kernel
theorem d20 : decode yB 20 = .ok (.if_icmp (.le) 6, 3) := by decide +kernel
theorem d26 : decode yB 26 = .ok (.aload_n 2, 1) := by decide +kernel
theorem d27 : decode yB 27 = .ok (.iload_n 3, 1) := by decide +kernel
theorem d28 : decode yB 28 = .ok (.iload 6, 2) := by decide +kernel
theorem d30 : decode yB 30 = .ok (.i2b, 1) := by decide +kernel
theorem d31 : decode yB 31 = .ok (.bastore, 1) := by decide +kernel
theorem d32 : decode yB 32 = .ok (.iinc 1 1, 3) := by decide +kernel
theorem d35 : decode yB 35 = .ok (.iinc 3 1, 3) := by decide +kernel
theorem d38 : decode yB 38 = .ok (.iinc 5 1, 3) := by decide +kernel
theorem d41 : decode yB 41 = .ok (.goto (-38), 3) := by decide +kernel
theorem d44 : decode yB 44 = .ok (.iload 4, 2) := by decide +kernel
theorem d46 : decode yB 46 = .ok (.ireturn, 1) := by decide +kernel
def site : List Cond := []
def tab : Cond := tabOf yN yB 7 (some .int) site
def P (b : Addr) (A : Cell) (d : Addr) (B : Cell) (o q len : Nat) (args : Array Value) (s : State) : Prop := args = #[.ref b, .int (Int32.ofNat o), .ref d, .int (Int32.ofNat q), .int (Int32.ofNat len)] ∧ Ch b A s ∧ Arr .byte d B s ∧ b ≠ d ∧ o + len ≤ A.slots.size ∧ q + len ≤ B.slots.size ∧ ∀ i, i < len → ¬ 255 < cv A (o + i)
def E (b : Addr) (A : Cell) (d : Addr) (B : Cell) (o q len : Nat) (r : Option Value) (s u : State) : Prop := r = some (.int (Int32.ofNat len)) ∧ ∃ B', Put d B' s u ∧ Laid B B' q (q + len) (fun j => Value.int (lo8 (cv A (o + (j - q)))))
/-- no char of the range above 255: len; the places written hold each char's low byte -/
theorem law (l : Launch) (b : Addr) (A : Cell) (d : Addr) (B : Cell) (o q len : Nat) : Law l yN 5 5 0 0 yB 7 (some .int) site (P b A d B o q len) (E b A d B o q len) (copyLocs d q len) 0 0 := by
  refine Law.of_walk (plainFor_of_name (by decide +kernel)) (by decide +kernel) (by decide +kernel) (by decide) (fun _ _ h => by rw [h.1]; rfl) (fun _ U U' hal hh h => ⟨h.1, h.2.1.mv hal hh, h.2.2.1.mv hal hh, h.2.2.2⟩) (fun r U U' V V' h1 hal h2 h => ⟨h.1, h.2.elim fun B' q => ⟨B', q.1.mv h1 h2, q.2⟩⟩) ?_
  intro p e s m args below meth c s₁ X0 hexec hbytes hml hret hlk hnm hown hh0 W hP
  obtain ⟨rfl, hA, hB, hne, l1, l2, hp⟩ := hP
  have c1 : Steps p.tables e below (s₁.setTop (entryFrame m #[.ref b, .int (Int32.ofNat o), .ref d, .int (Int32.ofNat q), .int (Int32.ofNat len)] 7)) (s₁.setTop (mkF m 0 #[.val (.ref b), .val (.int (Int32.ofNat o)), .val (.ref d), .val (.int (Int32.ofNat q)), .val (.int (Int32.ofNat len)), .unset, .unset] [])) := entry rfl
  have hA0 := hA.1.mv X0.warmed.alike hh0
  have hB0 := hB.mv X0.warmed.alike hh0
  have a31 := hA.1.2.2.2
  have c2 : Steps p.tables e below (s₁.setTop (entryFrame m #[.ref b, .int (Int32.ofNat o), .ref d, .int (Int32.ofNat q), .int (Int32.ofNat len)] 7)) (s₁.setTop (mkF m 3 #[.val (.ref b), .val (.int (Int32.ofNat o)), .val (.ref d), .val (.int (Int32.ofNat q)), .val (.int (Int32.ofNat len)), .val (.int 0), .unset] [])) := c1.trans (by
    refine iconstV X0.here hexec rfl 0 (hb hbytes d0) (by decide) ?_
    refine XS.istore X0.here hexec rfl (hb hbytes d1) rfl rfl ?_
    exact Steps.refl _)
  have loop : ∀ (r i : Nat), i + r = len → ∀ (z : Slot), (z = .unset ∨ ∃ w, z = .val w ∧ w.category = 1) → ∀ (Tl : State) (Bk : Cell), Stand p l e { frames := 0, locals := 0, cells := 0, slots := 0 } s m #[.ref b, .int (Int32.ofNat o), .ref d, .int (Int32.ofNat q), .int (Int32.ofNat len)] below meth c Tl ([] ++ copyLocs d q i) 0 0 → Put d Bk s₁ Tl → Laid B Bk q (q + i) (fun j => Value.int (lo8 (cv A (o + (j - q))))) →
      Steps p.tables e below (s₁.setTop (entryFrame m #[.ref b, .int (Int32.ofNat o), .ref d, .int (Int32.ofNat q), .int (Int32.ofNat len)] 7)) (Tl.setTop (mkF m 3 #[.val (.ref b), .val (.int (Int32.ofNat (o + i))), .val (.ref d), .val (.int (Int32.ofNat (q + i))), .val (.int (Int32.ofNat len)), .val (.int (Int32.ofNat i)), z] [])) → ∃ (T' : State) (B' : Cell) (z' : Slot), Stand p l e { frames := 0, locals := 0, cells := 0, slots := 0 } s m #[.ref b, .int (Int32.ofNat o), .ref d, .int (Int32.ofNat q), .int (Int32.ofNat len)] below meth c T' ([] ++ copyLocs d q len) 0 0 ∧ Put d B' s₁ T' ∧ Laid B B' q (q + len) (fun j => Value.int (lo8 (cv A (o + (j - q))))) ∧
      Steps p.tables e below (s₁.setTop (entryFrame m #[.ref b, .int (Int32.ofNat o), .ref d, .int (Int32.ofNat q), .int (Int32.ofNat len)] 7)) (T'.setTop (mkF m 3 #[.val (.ref b), .val (.int (Int32.ofNat (o + len))), .val (.ref d), .val (.int (Int32.ofNat (q + len))), .val (.int (Int32.ofNat len)), .val (.int (Int32.ofNat len)), z'] [])) := by
    intro r
    induction r with
    | zero =>
      intro i hi z hz Tl Bk Xl pl fl cl
      have hil : i = len := by omega
      rw [hil] at Xl fl cl
      exact ⟨Tl, Bk, z, Xl, pl, fl, cl⟩
    | succ r ih =>
      intro i hi z hz Tl Bk Xl pl fl cl
      have all := X0.warmed.alike.symm.trans Xl.warmed.alike
      have hAl := hA0.keep all (pl.other hne hA0.1)
      have hBk := hB0.like all pl.1 fl.1 fl.2.1 fl.2.2.1
      have hlt : q + i < Bk.slots.size := by rw [fl.2.2.1]; omega
      have c3 : Steps p.tables e below (s₁.setTop (entryFrame m #[.ref b, .int (Int32.ofNat o), .ref d, .int (Int32.ofNat q), .int (Int32.ofNat len)] 7)) (Tl.setTop (mkF m 12 #[.val (.ref b), .val (.int (Int32.ofNat (o + i))), .val (.ref d), .val (.int (Int32.ofNat (q + i))), .val (.int (Int32.ofNat len)), .val (.int (Int32.ofNat i)), z] [.int (Int32.ofNat (o + i)), .ref b])) := cl.trans (by
        refine XS.iload Xl.here hexec rfl (hb hbytes d3) rfl ?_
        refine XS.iload Xl.here hexec rfl (hb hbytes d5) rfl ?_
        refine XS.icmpNo Xl.here hexec rfl (hb hbytes d7) rfl (ii_ge_f (lt32 (by omega) (by omega))) ?_
        refine XS.aloadN Xl.here hexec rfl (hb hbytes d10) rfl rfl ?_
        refine XS.iloadN Xl.here hexec rfl (hb hbytes d11) rfl ?_
        exact Steps.refl _)
      have c4 : Steps p.tables e below (s₁.setTop (entryFrame m #[.ref b, .int (Int32.ofNat o), .ref d, .int (Int32.ofNat q), .int (Int32.ofNat len)] 7)) (Tl.setTop (mkF m 13 #[.val (.ref b), .val (.int (Int32.ofNat (o + i))), .val (.ref d), .val (.int (Int32.ofNat (q + i))), .val (.int (Int32.ofNat len)), .val (.int (Int32.ofNat i)), z] [.int (cv A (o + i))])) := c3.trans (by
        refine Xl.aget hexec hAl rfl (hA.get (i := o + i) (by omega)) rfl rfl (hb hbytes d12) ?_
        exact Steps.refl _)
      have c5 : Steps p.tables e below (s₁.setTop (entryFrame m #[.ref b, .int (Int32.ofNat o), .ref d, .int (Int32.ofNat q), .int (Int32.ofNat len)] 7)) (Tl.setTop (mkF m 15 #[.val (.ref b), .val (.int (Int32.ofNat (o + i))), .val (.ref d), .val (.int (Int32.ofNat (q + i))), .val (.int (Int32.ofNat len)), .val (.int (Int32.ofNat i)), .val (.int (cv A (o + i)))] [])) := c4.trans (by
        refine XS.istoreS Xl.here hexec rfl (hb hbytes d13) rfl rfl hz ?_
        exact Steps.refl _)
      have c6 : Steps p.tables e below (s₁.setTop (entryFrame m #[.ref b, .int (Int32.ofNat o), .ref d, .int (Int32.ofNat q), .int (Int32.ofNat len)] 7)) (Tl.setTop (mkF m 31 #[.val (.ref b), .val (.int (Int32.ofNat (o + i))), .val (.ref d), .val (.int (Int32.ofNat (q + i))), .val (.int (Int32.ofNat len)), .val (.int (Int32.ofNat i)), .val (.int (cv A (o + i)))] [.int (lo8 (cv A (o + i))), .int (Int32.ofNat (q + i)), .ref d])) := c5.trans (by
        refine XS.iload Xl.here hexec rfl (hb hbytes d15) rfl ?_
        refine sipushV Xl.here hexec rfl 255 (hb hbytes d17) (by decide) ?_
        refine XS.icmpYes Xl.here hexec rfl (pc0 := 20) rfl (hb hbytes d20) rfl (ii_le_t (hp i (by omega))) (by decide) rfl ?_
        refine XS.aloadN Xl.here hexec rfl (hb hbytes d26) rfl rfl ?_
        refine XS.iloadN Xl.here hexec rfl (hb hbytes d27) rfl ?_
        refine XS.iload Xl.here hexec rfl (hb hbytes d28) rfl ?_
        refine i2b Xl.here hexec rfl (hb hbytes d30) rfl ?_
        exact Steps.refl _)
      obtain ⟨T7, X7, p7, st7⟩ := Xl.aput hexec hBk rfl hlt rfl (fits_lo8 (cv A (o + i))) (g := (mkF m 31 #[.val (.ref b), .val (.int (Int32.ofNat (o + i))), .val (.ref d), .val (.int (Int32.ofNat (q + i))), .val (.int (Int32.ofNat len)), .val (.int (Int32.ofNat i)), .val (.int (cv A (o + i)))] [.int (lo8 (cv A (o + i))), .int (Int32.ofNat (q + i)), .ref d])) rfl (rest := []) rfl (hb hbytes d31)
      have c8 : Steps p.tables e below (s₁.setTop (entryFrame m #[.ref b, .int (Int32.ofNat o), .ref d, .int (Int32.ofNat q), .int (Int32.ofNat len)] 7)) (T7.setTop (mkF m 32 #[.val (.ref b), .val (.int (Int32.ofNat (o + i))), .val (.ref d), .val (.int (Int32.ofNat (q + i))), .val (.int (Int32.ofNat len)), .val (.int (Int32.ofNat i)), .val (.int (cv A (o + i)))] [])) := c6.trans (st7 _ (Steps.refl _))
      have c9 : Steps p.tables e below (s₁.setTop (entryFrame m #[.ref b, .int (Int32.ofNat o), .ref d, .int (Int32.ofNat q), .int (Int32.ofNat len)] 7)) (T7.setTop (mkF m 3 #[.val (.ref b), .val (.int (Int32.ofNat (o + i) + 1)), .val (.ref d), .val (.int (Int32.ofNat (q + i) + 1)), .val (.int (Int32.ofNat len)), .val (.int (Int32.ofNat i + 1)), .val (.int (cv A (o + i)))] [])) := c8.trans (by
        refine iincV X7.here hexec rfl 1 (hb hbytes d32) (by decide) rfl rfl ?_
        refine iincV X7.here hexec rfl 1 (hb hbytes d35) (by decide) rfl rfl ?_
        refine iincV X7.here hexec rfl 1 (hb hbytes d38) (by decide) rfl rfl ?_
        refine XS.goto X7.here hexec rfl (pc0 := 41) rfl (hb hbytes d41) (by decide) rfl ?_
        exact Steps.refl _)
      have c10 : Steps p.tables e below (s₁.setTop (entryFrame m #[.ref b, .int (Int32.ofNat o), .ref d, .int (Int32.ofNat q), .int (Int32.ofNat len)] 7)) (T7.setTop (mkF m 3 #[.val (.ref b), .val (.int (Int32.ofNat (o + (i + 1)))), .val (.ref d), .val (.int (Int32.ofNat (q + (i + 1)))), .val (.int (Int32.ofNat len)), .val (.int (Int32.ofNat (i + 1))), .val (.int (cv A (o + i)))] [])) := by
        have := c9
        rw [succ32, succ32, succ32] at this
        exact this
      exact ih (i + 1) (by omega) _ (Or.inr ⟨_, rfl, rfl⟩) T7 _ (by rw [copyLocs_step, ← List.append_assoc]; exact X7) (pl.trans p7) (fl.step (by omega) hlt (by simp)) c10
  obtain ⟨T9, B9, z9, X9, p9, f9, g9⟩ := loop len 0 (by omega) .unset (Or.inl rfl) s₁ B (by simpa [copyLocs] using X0) ⟨hB0.1, fun _ _ => rfl, rfl⟩ (Laid.zero _ _ _) c2
  have c11 : Steps p.tables e below (s₁.setTop (entryFrame m #[.ref b, .int (Int32.ofNat o), .ref d, .int (Int32.ofNat q), .int (Int32.ofNat len)] 7)) (T9.setTop (mkF m 46 #[.val (.ref b), .val (.int (Int32.ofNat (o + len))), .val (.ref d), .val (.int (Int32.ofNat (q + len))), .val (.int (Int32.ofNat len)), .val (.int (Int32.ofNat len)), z9] [.int (Int32.ofNat len)])) := g9.trans (by
    refine XS.iload X9.here hexec rfl (hb hbytes d3) rfl ?_
    refine XS.iload X9.here hexec rfl (hb hbytes d5) rfl ?_
    refine XS.icmpYes X9.here hexec rfl (pc0 := 7) rfl (hb hbytes d7) rfl (ii_ge_t (nlt32 (by omega) (Nat.le_refl _))) (by decide) rfl ?_
    refine XS.iload X9.here hexec rfl (hb hbytes d44) rfl ?_
    exact Steps.refl _)
  exact ⟨T9, some (.int (Int32.ofNat len)), _, _, _, X9, by simp, rfl, rfl, (fun h => by cases h), ⟨rfl, B9, p9.from hh0, f9⟩, fun fs hl => c11.trans (X9.ireturnOut hexec hret rfl (Or.inl rfl) (hb hbytes d46) hl)⟩
end Cmp5
namespace Cmp3
def yN : MethodName := ⟨"java/lang/StringUTF16", "compress", "([CII)[B"⟩
abbrev yB : ByteArray := jdk_52_method_16_code
theorem d0 : decode yB 0 = .ok (.iload_n 2, 1) := by decide +kernel
theorem d1 : decode yB 1 = .ok (.newarray .byte, 2) := by decide +kernel
theorem d3 : decode yB 3 = .ok (.astore_n 3, 1) := by decide +kernel
theorem d4 : decode yB 4 = .ok (.aload_n 0, 1) := by decide +kernel
theorem d5 : decode yB 5 = .ok (.iload_n 1, 1) := by decide +kernel
theorem d6 : decode yB 6 = .ok (.aload_n 3, 1) := by decide +kernel
theorem d7 : decode yB 7 = .ok (.iconst 0, 1) := by decide +kernel
theorem d8 : decode yB 8 = .ok (.iload_n 2, 1) := by decide +kernel
theorem d9 : decode yB 9 = .ok (.invokestatic 115, 3) := by decide +kernel
theorem d12 : decode yB 12 = .ok (.istore 4, 2) := by decide +kernel
theorem d14 : decode yB 14 = .ok (.iload 4, 2) := by decide +kernel
theorem d16 : decode yB 16 = .ok (.iload_n 2, 1) := by decide +kernel
theorem d17 : decode yB 17 = .ok (.if_icmp (.eq) 40, 3) := by decide +kernel
theorem d57 : decode yB 57 = .ok (.aload_n 3, 1) := by decide +kernel
theorem d58 : decode yB 58 = .ok (.areturn, 1) := by decide +kernel
def site : List Cond := [.arrayClass .byte, Cmp5.tab] ++ staticW U16 115 Cmp5.yN
def tab : Cond := tabOf yN yB 6 (some (.array .byte)) site
def P (b : Addr) (A : Cell) (o len : Nat) (args : Array Value) (s : State) : Prop := args = #[.ref b, .int (Int32.ofNat o), .int (Int32.ofNat len)] ∧ Ch b A s ∧ o + len ≤ A.slots.size ∧ len ≤ 536870912 ∧ ∀ i, i < len → ¬ 255 < cv A (o + i)
def E (b : Addr) (A : Cell) (o len : Nat) (r : Option Value) (s u : State) : Prop := NewArr .byte "[B" len (fun j => .int (lo8 (cv A (o + j)))) r s u ∧ u.heap.size = s.heap.size + 1
/-- no char of the range above 255: a new byte[] of their low bytes -/
theorem law (l : Launch) (b : Addr) (A : Cell) (o len : Nat) : Law l yN 3 3 1 18 yB 6 (some (.array .byte)) site (P b A o len) (E b A o len) [] 1 len := by
  refine Law.of_walk (plainFor_of_name (by decide +kernel)) (by decide +kernel) (by decide +kernel) (by decide) (fun _ _ h => by rw [h.1]; rfl) (fun _ U U' hal hh h => ⟨h.1, h.2.1.mv hal hh, h.2.2⟩) (fun r U U' V V' h1 hal h2 h => ⟨NewArr.mv r U U' V V' h1 hal h2 h.1, by rw [h1, h2]; exact h.2⟩) ?_
  intro p e s m args below meth c s₁ X0 hexec hbytes hml hret hlk hnm hown hh0 W hP
  obtain ⟨rfl, hA, l1, l2, hp⟩ := hP
  have a31 := hA.1.2.2.2
  have c1 : Steps p.tables e below (s₁.setTop (entryFrame m #[.ref b, .int (Int32.ofNat o), .int (Int32.ofNat len)] 6)) (s₁.setTop (mkF m 0 #[.val (.ref b), .val (.int (Int32.ofNat o)), .val (.int (Int32.ofNat len)), .unset, .unset, .unset] [])) := entry rfl
  have c2 : Steps p.tables e below (s₁.setTop (entryFrame m #[.ref b, .int (Int32.ofNat o), .int (Int32.ofNat len)] 6)) (s₁.setTop (mkF m 1 #[.val (.ref b), .val (.int (Int32.ofNat o)), .val (.int (Int32.ofNat len)), .unset, .unset, .unset] [.int (Int32.ofNat len)])) := c1.trans (by
    refine XS.iloadN X0.here hexec rfl (hb hbytes d0) rfl ?_
    exact Steps.refl _)
  obtain ⟨T3, B3, X3, ba3, bs3, bv3, bh3, bf3, st3⟩ := X0.anew hexec (atype := .byte) (wk W (.arrayClass .byte)) rfl (by show len * 1 ≤ _; omega) (by omega) (g := (mkF m 1 #[.val (.ref b), .val (.int (Int32.ofNat o)), .val (.int (Int32.ofNat len)), .unset, .unset, .unset] [.int (Int32.ofNat len)])) rfl (hb hbytes d1) (rest := []) rfl (Nat.le_refl _) (by show 0 + len ≤ len; omega)
  rw [hh0] at ba3 st3
  have kp3 : XT.Kept s T3 := (XT.Kept.of_eq hh0).push bh3
  have hA3 := hA.keep X3.warmed.alike (kp3 _ _ hA.1.1)
  have hne : b ≠ s.heap.size := hA.1.ne
  have c4 : Steps p.tables e below (s₁.setTop (entryFrame m #[.ref b, .int (Int32.ofNat o), .int (Int32.ofNat len)] 6)) (T3.setTop (mkF m 3 #[.val (.ref b), .val (.int (Int32.ofNat o)), .val (.int (Int32.ofNat len)), .unset, .unset, .unset] [.ref s.heap.size])) := c2.trans (st3 _ (Steps.refl _))
  have c5 : Steps p.tables e below (s₁.setTop (entryFrame m #[.ref b, .int (Int32.ofNat o), .int (Int32.ofNat len)] 6)) (T3.setTop (mkF m 9 #[.val (.ref b), .val (.int (Int32.ofNat o)), .val (.int (Int32.ofNat len)), .val (.ref s.heap.size), .unset, .unset] [.int (Int32.ofNat len), .int 0, .ref s.heap.size, .int (Int32.ofNat o), .ref b])) := c4.trans (by
    refine XS.astoreN X3.here hexec rfl (hb hbytes d3) rfl rfl rfl ?_
    refine XS.aloadN X3.here hexec rfl (hb hbytes d4) rfl rfl ?_
    refine XS.iloadN X3.here hexec rfl (hb hbytes d5) rfl ?_
    refine XS.aloadN X3.here hexec rfl (hb hbytes d6) rfl rfl ?_
    refine iconstV X3.here hexec rfl 0 (hb hbytes d7) (by decide) ?_
    refine XS.iloadN X3.here hexec rfl (hb hbytes d8) rfl ?_
    exact Steps.refl _)
  obtain ⟨v6, T6, X6, E6, g6⟩ := X3.callS hexec (Cmp5.law l b A s.heap.size B3 o 0 len) hown (wks W (staticW U16 115 Cmp5.yN)) (wk W Cmp5.tab) (W := 0) (Nat.le_of_ble_eq_true rfl) (Nat.le_of_ble_eq_true rfl) (Nat.le_refl _) (by show 0 + len + 0 ≤ len; omega) (g := (mkF m 9 #[.val (.ref b), .val (.int (Int32.ofNat o)), .val (.int (Int32.ofNat len)), .val (.ref s.heap.size), .unset, .unset] [.int (Int32.ofNat len), .int (Int32.ofNat 0), .ref s.heap.size, .int (Int32.ofNat o), .ref b])) rfl (by rw [hml]; rfl) c5 (argsL := [.ref b, .int (Int32.ofNat o), .ref s.heap.size, .int (Int32.ofNat 0), .int (Int32.ofNat len)]) (rest := []) rfl rfl (by show 2 * 0 + 0 ≤ _; decide) (hb hbytes d9) (⟨rfl, hA3, ba3, hne, l1, by rw [bs3]; simp, hp⟩)
  obtain ⟨rfl, B6, p6, f6⟩ := E6
  have c7 : Steps p.tables e below (s₁.setTop (entryFrame m #[.ref b, .int (Int32.ofNat o), .int (Int32.ofNat len)] 6)) (T6.setTop (mkF m 12 #[.val (.ref b), .val (.int (Int32.ofNat o)), .val (.int (Int32.ofNat len)), .val (.ref s.heap.size), .unset, .unset] [.int (Int32.ofNat len)])) := g6
  have c8 : Steps p.tables e below (s₁.setTop (entryFrame m #[.ref b, .int (Int32.ofNat o), .int (Int32.ofNat len)] 6)) (T6.setTop (mkF m 58 #[.val (.ref b), .val (.int (Int32.ofNat o)), .val (.int (Int32.ofNat len)), .val (.ref s.heap.size), .val (.int (Int32.ofNat len)), .unset] [.ref s.heap.size])) := c7.trans (by
    refine XS.istore X6.here hexec rfl (hb hbytes d12) rfl rfl ?_
    refine XS.iload X6.here hexec rfl (hb hbytes d14) rfl ?_
    refine XS.iloadN X6.here hexec rfl (hb hbytes d16) rfl ?_
    refine XS.icmpYes X6.here hexec rfl (pc0 := 17) rfl (hb hbytes d17) rfl (ii_eq_t rfl) (by decide) rfl ?_
    refine XS.aloadN X6.here hexec rfl (hb hbytes d57) rfl rfl ?_
    exact Steps.refl _)
  have X8 := X6.wide (L' := []) (cells' := 1) (slots' := len) (fun x hx hlt => by
    simp only [List.nil_append, copyLocs, List.mem_map, List.mem_range] at hx
    obtain ⟨i, -, rfl⟩ := hx
    exact absurd hlt (Nat.lt_irrefl _)) (Nat.le_refl _) (by omega)
  exact ⟨T6, some (.ref s.heap.size), _, _, _, X8, rfl, rfl, rfl, (fun h => by cases h), ⟨⟨rfl, B6, ba3.like (X3.warmed.alike.symm.trans X6.warmed.alike) p6.1 f6.1 f6.2.1 f6.2.2.1, f6.2.1.trans bv3, by rw [X6.warmed.alike.findClass, f6.1]; exact bf3, by rw [f6.2.2.1, bs3]; simp, fun j hj => by rw [f6.2.2.2 j, if_pos (by omega)]; rfl, kp3.put p6 (Nat.le_refl _)⟩, by rw [p6.2.2, bh3, hh0]; simp⟩, fun fs hl => c8.trans (X8.areturnOut hexec rfl hret rfl (hb hbytes d58) hl)⟩
end Cmp3
namespace CodL
def yN : MethodName := ⟨"java/lang/StringUTF16", "coderFromArrayLen", "([BI)B"⟩
abbrev yB : ByteArray := jdk_52_method_15_code
theorem d0 : decode yB 0 = .ok (.iload_n 1, 1) := by decide +kernel
theorem d1 : decode yB 1 = .ok (.aload_n 0, 1) := by decide +kernel
theorem d2 : decode yB 2 = .ok (.arraylength, 1) := by decide +kernel
theorem d3 : decode yB 3 = .ok (.isub, 1) := by decide +kernel
theorem d4 : decode yB 4 = .ok (.bipush 31, 2) := by decide +kernel
theorem d6 : decode yB 6 = .ok (.iushr, 1) := by decide +kernel
theorem d7 : decode yB 7 = .ok (.i2b, 1) := by decide +kernel
theorem d8 : decode yB 8 = .ok (.ireturn, 1) := by decide +kernel
def site : List Cond := []
def tab : Cond := tabOf yN yB 2 (some .byte) site
def P (d : Addr) (B : Cell) (args : Array Value) (s : State) : Prop := args = #[.ref d, .int (Int32.ofNat B.slots.size)] ∧ Arr .byte d B s
def E (r : Option Value) (s u : State) : Prop := XT.PureE (some (.int 0)) r s u
/-- an array as long as the number of chars: LATIN1 -/
theorem law (l : Launch) (d : Addr) (B : Cell) : Law l yN 2 2 0 0 yB 2 (some .byte) site (P d B) E [] 0 0 := by
  refine Law.of_walk (plainFor_of_name (by decide +kernel)) (by decide +kernel) (by decide +kernel) (by decide) (fun _ _ h => by rw [h.1]; rfl) (fun _ U U' hal hh h => ⟨h.1, h.2.mv hal hh⟩) (fun r U U' V V' h1 hal h2 h => XT.PureE.mv r U U' V V' h1 hal h2 h) ?_
  intro p e s m args below meth c s₁ X0 hexec hbytes hml hret hlk hnm hown hh0 W hP
  obtain ⟨rfl, hB⟩ := hP
  have hB0 := hB.mv X0.warmed.alike hh0
  have c1 : Steps p.tables e below (s₁.setTop (entryFrame m #[.ref d, .int (Int32.ofNat B.slots.size)] 2)) (s₁.setTop (mkF m 0 #[.val (.ref d), .val (.int (Int32.ofNat B.slots.size))] [])) := entry rfl
  have c2 : Steps p.tables e below (s₁.setTop (entryFrame m #[.ref d, .int (Int32.ofNat B.slots.size)] 2)) (s₁.setTop (mkF m 2 #[.val (.ref d), .val (.int (Int32.ofNat B.slots.size))] [.ref d, .int (Int32.ofNat B.slots.size)])) := c1.trans (by
    refine XS.iloadN X0.here hexec rfl (hb hbytes d0) rfl ?_
    refine XS.aloadN X0.here hexec rfl (hb hbytes d1) rfl rfl ?_
    exact Steps.refl _)
  have c3 : Steps p.tables e below (s₁.setTop (entryFrame m #[.ref d, .int (Int32.ofNat B.slots.size)] 2)) (s₁.setTop (mkF m 8 #[.val (.ref d), .val (.int (Int32.ofNat B.slots.size))] [.int (lo8 (ushr (Int32.ofNat B.slots.size - Int32.ofNat B.slots.size) 31))])) := c2.trans (by
    refine X0.alen hexec hB0 rfl rfl (hb hbytes d2) ?_
    refine XS.isub X0.here hexec rfl (hb hbytes d3) rfl ?_
    refine bipushV X0.here hexec rfl 31 (hb hbytes d4) (by decide) ?_
    refine iushr X0.here hexec rfl (hb hbytes d6) rfl ?_
    refine i2b X0.here hexec rfl (hb hbytes d7) rfl ?_
    exact Steps.refl _)
  have e0 : lo8 (ushr (Int32.ofNat B.slots.size - Int32.ofNat B.slots.size) 31) = 0 := by rw [Int32.sub_self]; decide
  rw [e0] at c3
  exact ⟨s₁, some (.int 0), _, _, _, X0, rfl, rfl, rfl, (fun h => by cases h), ⟨rfl, hh0⟩, fun fs hl => c3.trans (X0.ireturnOut hexec hret rfl (Or.inr (Or.inr (Or.inl rfl))) (hb hbytes d8) hl)⟩
end CodL
/-- the String at a is Latin-1 over a new byte[] (the heap's one new cell): the low bytes of the len chars of A from o on; every cell but a is kept -/
def Got (a : Addr) (D : Cell) (fV fC : Field) (A : Cell) (o len : Nat) (r : Option Value) (s u : State) : Prop := r = none ∧ ∃ D' V : Cell, Blank "java/lang/String" a D' u ∧ Same D D' [fV.slot, fC.slot] ∧ D'.slots[fV.slot]? = some (.ref s.heap.size) ∧ D'.slots[fC.slot]? = some (.int 0) ∧ Arr .byte s.heap.size V u ∧ V.vm = .none ∧ u.vm.findClass "[B" = some V.cls ∧ V.slots.size = len ∧ (∀ j, j < len → V.slots[j]? = some (.int (lo8 (cv A (o + j))))) ∧ (∀ (y : Addr) (c : Cell), y ≠ a → s.heap[y]? = some c → u.heap[y]? = some c) ∧ u.heap.size = s.heap.size + 1
theorem Got.mv {a : Addr} {D A : Cell} {fV fC : Field} {o len : Nat} : ∀ r (U U' V V' : State), U'.heap = U.heap → V.vm.Alike V'.vm → V'.heap = V.heap → Got a D fV fC A o len r U V → Got a D fV fC A o len r U' V' :=
  fun r U U' V V' h1 hal h2 ⟨e0, D', X, a1, a2, a3, a4, a5, a6, a7, a8, a9, a10, a11⟩ => ⟨e0, D', X, a1.mv hal h2, a2, by rw [h1]; exact a3, a4, by rw [h1]; exact a5.mv hal h2, a6, by rw [hal.findClass]; exact a7, a8, a9, by rw [h1, h2]; exact a10, by rw [h1, h2]; exact a11⟩
namespace New4
def yN : MethodName := ⟨"java/lang/String", "<init>", "([CIILjava/lang/Void;)V"⟩
abbrev yB : ByteArray := jdk_42_method_149_code
theorem d0 : decode yB 0 = .ok (.aload_n 0, 1) := by decide +kernel
theorem d1 : decode yB 1 = .ok (.invokespecial 1, 3) := by decide +kernel
theorem d4 : decode yB 4 = .ok (.iload_n 3, 1) := by decide +kernel
theorem d5 : decode yB 5 = .ok (.ifCond (.ne) 22, 3) := by decide +kernel
theorem d27 : decode yB 27 = .ok (.getstatic 38, 3) := by decide +kernel
theorem d30 : decode yB 30 = .ok (.ifCond (.eq) 28, 3) := by decide +kernel
theorem d33 : decode yB 33 = .ok (.aload_n 1, 1) := by decide +kernel
theorem d34 : decode yB 34 = .ok (.iload_n 2, 1) := by decide +kernel
theorem d35 : decode yB 35 = .ok (.iload_n 3, 1) := by decide +kernel
theorem d36 : decode yB 36 = .ok (.invokestatic 177, 3) := by decide +kernel
theorem d39 : decode yB 39 = .ok (.astore 5, 2) := by decide +kernel
theorem d41 : decode yB 41 = .ok (.aload_n 0, 1) := by decide +kernel
theorem d42 : decode yB 42 = .ok (.aload 5, 2) := by decide +kernel
theorem d44 : decode yB 44 = .ok (.iload_n 3, 1) := by decide +kernel
theorem d45 : decode yB 45 = .ok (.invokestatic 47, 3) := by decide +kernel
theorem d48 : decode yB 48 = .ok (.putfield 15, 3) := by decide +kernel
theorem d51 : decode yB 51 = .ok (.aload_n 0, 1) := by decide +kernel
theorem d52 : decode yB 52 = .ok (.aload 5, 2) := by decide +kernel
theorem d54 : decode yB 54 = .ok (.putfield 9, 3) := by decide +kernel
theorem d57 : decode yB 57 = .ok (.return_, 1) := by decide +kernel
def site : List Cond := [.fieldLink "java/lang/String" 38 "java/lang/String" "COMPACT_STRINGS" "Z", Cmp3.tab, CodL.tab, .laysFinal "java/lang/String" "java/lang/String" "value" "[B", .fieldLink "java/lang/String" 9 "java/lang/String" "value" "[B", .laysFinal "java/lang/String" "java/lang/String" "coder" "B", .fieldLink "java/lang/String" 15 "java/lang/String" "coder" "B"] ++ objW "java/lang/String" 1 ++ staticW "java/lang/String" 177 Cmp3.yN ++ staticW "java/lang/String" 47 CodL.yN
def tab : Cond := tabOf yN yB 6 none site
def P (a : Addr) (D : Cell) (fV fC : Field) (b : Addr) (A : Cell) (z : Int32) (o len : Nat) (args : Array Value) (s : State) : Prop := args = #[.ref a, .ref b, .int (Int32.ofNat o), .int (Int32.ofNat len), .null] ∧ Blank "java/lang/String" a D s ∧ Found "java/lang/String" "value" "[B" fV s ∧ Found "java/lang/String" "coder" "B" fC s ∧ Ch b A s ∧ StaticIs s "java/lang/String" "COMPACT_STRINGS" "Z" (.int z) ∧ ¬ z = 0 ∧ 0 < len ∧ o + len ≤ A.slots.size ∧ len ≤ 536870912 ∧ ∀ i, i < len → ¬ 255 < cv A (o + i)
def E (a : Addr) (D : Cell) (fV fC : Field) (A : Cell) (o len : Nat) (r : Option Value) (s u : State) : Prop := Got a D fV fC A o len r s u
/-- len > 0, no char of the range above 255: a Latin-1 String of their low bytes -/
theorem law (l : Launch) (a : Addr) (D : Cell) (fV fC : Field) (b : Addr) (A : Cell) (z : Int32) (o len : Nat) : Law l yN 5 4 2 35 yB 6 none site (P a D fV fC b A z o len) (E a D fV fC A o len) [⟨a, fC.slot⟩, ⟨a, fV.slot⟩] 1 len := by
  refine Law.of_walk (plainFor_of_name (by decide +kernel)) (by decide +kernel) (by decide +kernel) (by decide) (fun _ _ h => by rw [h.1]; rfl) (fun _ U U' hal hh h => ⟨h.1, h.2.1.mv hal hh, h.2.2.1.al hal, h.2.2.2.1.al hal, h.2.2.2.2.1.mv hal hh, h.2.2.2.2.2.1.there hal hh, h.2.2.2.2.2.2⟩) (fun r U U' V V' h1 hal h2 h => Got.mv r U U' V V' h1 hal h2 h) ?_
  intro p e s m args below meth c s₁ X0 hexec hbytes hml hret hlk hnm hown hh0 W hP
  obtain ⟨rfl, hB, f1, f2, hA, s1, hz, l0, l1, l2, hp⟩ := hP
  have a31 := hA.1.2.2.2
  have c1 : Steps p.tables e below (s₁.setTop (entryFrame m #[.ref a, .ref b, .int (Int32.ofNat o), .int (Int32.ofNat len), .null] 6)) (s₁.setTop (mkF m 0 #[.val (.ref a), .val (.ref b), .val (.int (Int32.ofNat o)), .val (.int (Int32.ofNat len)), .val .null, .unset] [])) := entry rfl
  have c2 : Steps p.tables e below (s₁.setTop (entryFrame m #[.ref a, .ref b, .int (Int32.ofNat o), .int (Int32.ofNat len), .null] 6)) (s₁.setTop (mkF m 1 #[.val (.ref a), .val (.ref b), .val (.int (Int32.ofNat o)), .val (.int (Int32.ofNat len)), .val .null, .unset] [.ref a])) := c1.trans (by
    refine XS.aloadN X0.here hexec rfl (hb hbytes d0) rfl rfl ?_
    exact Steps.refl _)
  obtain ⟨T3, X3, q3, st3⟩ := X0.oinit hexec hown (wks W (objW "java/lang/String" 1)) (g := (mkF m 1 #[.val (.ref a), .val (.ref b), .val (.int (Int32.ofNat o)), .val (.int (Int32.ofNat len)), .val .null, .unset] [.ref a])) rfl (by rw [hml]; rfl) (rest := []) rfl (hb hbytes d1) (W := 0) (by show 2 * 0 + 0 ≤ _; decide) (Nat.le_of_ble_eq_true rfl) (Nat.le_of_ble_eq_true rfl)
  have hh3 := q3.trans hh0
  have c4 : Steps p.tables e below (s₁.setTop (entryFrame m #[.ref a, .ref b, .int (Int32.ofNat o), .int (Int32.ofNat len), .null] 6)) (T3.setTop (mkF m 27 #[.val (.ref a), .val (.ref b), .val (.int (Int32.ofNat o)), .val (.int (Int32.ofNat len)), .val .null, .unset] [])) := (c2.trans (st3 _ (Steps.refl _))).trans (by
    refine XS.iloadN X3.here hexec rfl (hb hbytes d4) rfl ?_
    refine XS.ifYes X3.here hexec rfl (pc0 := 5) rfl (hb hbytes d5) rfl (i0_ne_t (nz32 (by omega) l0)) (by decide) rfl ?_
    exact Steps.refl _)
  obtain ⟨T5, X5, q5, st5⟩ := X3.sget hexec hown (wk W (.fieldLink "java/lang/String" 38 "java/lang/String" "COMPACT_STRINGS" "Z")) s1 (fun _ _ h => by rw [hh3]; exact h) (g := (mkF m 27 #[.val (.ref a), .val (.ref b), .val (.int (Int32.ofNat o)), .val (.int (Int32.ofNat len)), .val .null, .unset] [])) rfl (hb hbytes d27)
  have hh5 := q5.trans hh3
  have c6 : Steps p.tables e below (s₁.setTop (entryFrame m #[.ref a, .ref b, .int (Int32.ofNat o), .int (Int32.ofNat len), .null] 6)) (T5.setTop (mkF m 30 #[.val (.ref a), .val (.ref b), .val (.int (Int32.ofNat o)), .val (.int (Int32.ofNat len)), .val .null, .unset] [.int z])) := c4.trans (st5 _ (Steps.refl _))
  have c7 : Steps p.tables e below (s₁.setTop (entryFrame m #[.ref a, .ref b, .int (Int32.ofNat o), .int (Int32.ofNat len), .null] 6)) (T5.setTop (mkF m 36 #[.val (.ref a), .val (.ref b), .val (.int (Int32.ofNat o)), .val (.int (Int32.ofNat len)), .val .null, .unset] [.int (Int32.ofNat len), .int (Int32.ofNat o), .ref b])) := c6.trans (by
    refine XS.ifNo X5.here hexec rfl (hb hbytes d30) rfl (i0_eq_f hz) ?_
    refine XS.aloadN X5.here hexec rfl (hb hbytes d33) rfl rfl ?_
    refine XS.iloadN X5.here hexec rfl (hb hbytes d34) rfl ?_
    refine XS.iloadN X5.here hexec rfl (hb hbytes d35) rfl ?_
    exact Steps.refl _)
  obtain ⟨v8, T8, X8, E8, g8⟩ := X5.callS hexec (Cmp3.law l b A o len) hown (wks W (staticW "java/lang/String" 177 Cmp3.yN)) (wk W Cmp3.tab) (W := 0) (Nat.le_of_ble_eq_true rfl) (Nat.le_of_ble_eq_true rfl) (Nat.le_refl _) (by show 0 + len ≤ len; omega) (g := (mkF m 36 #[.val (.ref a), .val (.ref b), .val (.int (Int32.ofNat o)), .val (.int (Int32.ofNat len)), .val .null, .unset] [.int (Int32.ofNat len), .int (Int32.ofNat o), .ref b])) rfl (by rw [hml]; rfl) c7 (argsL := [.ref b, .int (Int32.ofNat o), .int (Int32.ofNat len)]) (rest := []) rfl rfl (by show 2 * 0 + 0 ≤ _; decide) (hb hbytes d36) (⟨rfl, hA.mv X5.warmed.alike hh5, l1, l2, hp⟩)
  obtain ⟨e8, z8⟩ := E8
  obtain ⟨rfl, N, n1, n2, n3, n4, n5, n6⟩ := NewArr.mv _ T5 s _ _ hh5.symm (Vm.Alike.refl _) rfl e8
  rw [hh5] at z8
  have hB1 := hB.keep X8.warmed.alike (n6 _ _ hB.1)
  have hne : s.heap.size ≠ a := (Nat.ne_of_lt (Array.getElem?_eq_some_iff.mp hB.1).1).symm
  have c9 : Steps p.tables e below (s₁.setTop (entryFrame m #[.ref a, .ref b, .int (Int32.ofNat o), .int (Int32.ofNat len), .null] 6)) (T8.setTop (mkF m 39 #[.val (.ref a), .val (.ref b), .val (.int (Int32.ofNat o)), .val (.int (Int32.ofNat len)), .val .null, .unset] [.ref s.heap.size])) := g8
  have c10 : Steps p.tables e below (s₁.setTop (entryFrame m #[.ref a, .ref b, .int (Int32.ofNat o), .int (Int32.ofNat len), .null] 6)) (T8.setTop (mkF m 45 #[.val (.ref a), .val (.ref b), .val (.int (Int32.ofNat o)), .val (.int (Int32.ofNat len)), .val .null, .val (.ref s.heap.size)] [.int (Int32.ofNat N.slots.size), .ref s.heap.size, .ref a])) := by
    have hc : Steps p.tables e below (s₁.setTop (entryFrame m #[.ref a, .ref b, .int (Int32.ofNat o), .int (Int32.ofNat len), .null] 6)) (T8.setTop (mkF m 45 #[.val (.ref a), .val (.ref b), .val (.int (Int32.ofNat o)), .val (.int (Int32.ofNat len)), .val .null, .val (.ref s.heap.size)] [.int (Int32.ofNat len), .ref s.heap.size, .ref a])) := c9.trans (by
      refine XS.astore X8.here hexec rfl (hb hbytes d39) rfl rfl rfl ?_
      refine XS.aloadN X8.here hexec rfl (hb hbytes d41) rfl rfl ?_
      refine XS.aload X8.here hexec rfl (hb hbytes d42) rfl rfl ?_
      refine XS.iloadN X8.here hexec rfl (hb hbytes d44) rfl ?_
      exact Steps.refl _)
    rw [n4]; exact hc
  obtain ⟨v11, T11, X11, E11, g11⟩ := X8.callS hexec (CodL.law l s.heap.size N) hown (wks W (staticW "java/lang/String" 47 CodL.yN)) (wk W CodL.tab) (W := 1) (Nat.le_of_ble_eq_true rfl) (Nat.le_of_ble_eq_true rfl) (Nat.le_refl _) (by show 0 + len + 0 ≤ len; omega) (g := (mkF m 45 #[.val (.ref a), .val (.ref b), .val (.int (Int32.ofNat o)), .val (.int (Int32.ofNat len)), .val .null, .val (.ref s.heap.size)] [.int (Int32.ofNat N.slots.size), .ref s.heap.size, .ref a])) rfl (by rw [hml]; rfl) c10 (argsL := [.ref s.heap.size, .int (Int32.ofNat N.slots.size)]) (rest := [.ref a]) rfl rfl (by show 2 * 0 + (1 + 0) ≤ _; decide) (hb hbytes d45) (⟨rfl, n1⟩)
  obtain ⟨rfl, q11⟩ := E11
  have hB11 := hB1.mv (X8.warmed.alike.symm.trans X11.warmed.alike) q11
  have c12 : Steps p.tables e below (s₁.setTop (entryFrame m #[.ref a, .ref b, .int (Int32.ofNat o), .int (Int32.ofNat len), .null] 6)) (T11.setTop (mkF m 48 #[.val (.ref a), .val (.ref b), .val (.int (Int32.ofNat o)), .val (.int (Int32.ofNat len)), .val .null, .val (.ref s.heap.size)] [.int 0, .ref a])) := g11
  obtain ⟨T13, X13, p13, bl13, sl13, st13⟩ := X11.finit hexec hown (wk W (.fieldLink "java/lang/String" 15 "java/lang/String" "coder" "B")) (Or.inr ⟨_, (wk W (.laysFinal "java/lang/String" "java/lang/String" "coder" "B"))⟩) (Or.inl ⟨rfl, hnm⟩) f2 (Or.inl rfl) hB11 (t := .byte) (by decide +kernel) rfl (g := (mkF m 48 #[.val (.ref a), .val (.ref b), .val (.int (Int32.ofNat o)), .val (.int (Int32.ofNat len)), .val .null, .val (.ref s.heap.size)] [.int 0, .ref a])) rfl (rest := []) rfl (hb hbytes d48)
  have c14 : Steps p.tables e below (s₁.setTop (entryFrame m #[.ref a, .ref b, .int (Int32.ofNat o), .int (Int32.ofNat len), .null] 6)) (T13.setTop (mkF m 54 #[.val (.ref a), .val (.ref b), .val (.int (Int32.ofNat o)), .val (.int (Int32.ofNat len)), .val .null, .val (.ref s.heap.size)] [.ref s.heap.size, .ref a])) := (c12.trans (st13 _ (Steps.refl _))).trans (by
    refine XS.aloadN X13.here hexec rfl (hb hbytes d51) rfl rfl ?_
    refine XS.aload X13.here hexec rfl (hb hbytes d52) rfl rfl ?_
    exact Steps.refl _)
  obtain ⟨T15, X15, p15, bl15, sl15, st15⟩ := X13.finit hexec hown (wk W (.fieldLink "java/lang/String" 9 "java/lang/String" "value" "[B")) (Or.inr ⟨_, (wk W (.laysFinal "java/lang/String" "java/lang/String" "value" "[B"))⟩) (Or.inl ⟨rfl, hnm⟩) f1 (Or.inl rfl) bl13 (t := (.array .byte)) (by decide +kernel) rfl (g := (mkF m 54 #[.val (.ref a), .val (.ref b), .val (.int (Int32.ofNat o)), .val (.int (Int32.ofNat len)), .val .null, .val (.ref s.heap.size)] [.ref s.heap.size, .ref a])) rfl (rest := []) rfl (hb hbytes d54)
  have c16 : Steps p.tables e below (s₁.setTop (entryFrame m #[.ref a, .ref b, .int (Int32.ofNat o), .int (Int32.ofNat len), .null] 6)) (T15.setTop (mkF m 57 #[.val (.ref a), .val (.ref b), .val (.int (Int32.ofNat o)), .val (.int (Int32.ofNat len)), .val .null, .val (.ref s.heap.size)] [])) := c14.trans (st15 _ (Steps.refl _))
  have ap := apart (Or.inr ⟨_, (wk W (.laysFinal "java/lang/String" "java/lang/String" "value" "[B"))⟩) (Or.inr ⟨_, (wk W (.laysFinal "java/lang/String" "java/lang/String" "coder" "B"))⟩) f1 f2 (t₁ := .array .byte) (t₂ := .byte) (by decide +kernel) (by decide +kernel) (by decide)
  have al := X8.warmed.alike.symm.trans X15.warmed.alike
  have n7 : T11.heap[s.heap.size]? = some N := by rw [q11]; exact n1.1
  exact ⟨T15, none, _, _, _, X15, by simp, rfl, by omega, (fun _ => rfl), ⟨rfl, _, N, bl15, ((Same.refl D _).set _ (by simp)).set _ (by simp), sl15, (Cell.slots_setSlot_ne _ ap).trans sl13, n1.keep al (p15.other hne (p13.other hne n7)), n2, by rw [al.findClass]; exact n3, n4, n5, fun y c h1 h2 => p15.other h1 (p13.other h1 (by rw [q11]; exact n6 y c h2)), by rw [p15.2.2, p13.2.2, q11]; exact z8⟩, fun fs hl => c16.trans (X15.returnOut hexec hret (hb hbytes d57) hl)⟩
end New4
namespace New1
def yN : MethodName := ⟨"java/lang/String", "<init>", "([C)V"⟩
abbrev yB : ByteArray := jdk_42_method_3_code
theorem d0 : decode yB 0 = .ok (.aload_n 0, 1) := by decide +kernel
theorem d1 : decode yB 1 = .ok (.aload_n 1, 1) := by decide +kernel
theorem d2 : decode yB 2 = .ok (.iconst 0, 1) := by decide +kernel
theorem d3 : decode yB 3 = .ok (.aload_n 1, 1) := by decide +kernel
theorem d4 : decode yB 4 = .ok (.arraylength, 1) := by decide +kernel
theorem d5 : decode yB 5 = .ok (.aconst_null, 1) := by decide +kernel
theorem d6 : decode yB 6 = .ok (.invokespecial 27, 3) := by decide +kernel
theorem d9 : decode yB 9 = .ok (.return_, 1) := by decide +kernel
def site : List Cond := [New4.tab] ++ initW "java/lang/String" 27 New4.yN
def tab : Cond := tabOf yN yB 2 none site
def P (a : Addr) (D : Cell) (fV fC : Field) (b : Addr) (A : Cell) (z : Int32) (args : Array Value) (s : State) : Prop := args = #[.ref a, .ref b] ∧ Blank "java/lang/String" a D s ∧ Found "java/lang/String" "value" "[B" fV s ∧ Found "java/lang/String" "coder" "B" fC s ∧ Ch b A s ∧ StaticIs s "java/lang/String" "COMPACT_STRINGS" "Z" (.int z) ∧ ¬ z = 0 ∧ 0 < A.slots.size ∧ A.slots.size ≤ 536870912 ∧ ∀ i, i < A.slots.size → ¬ 255 < cv A i
def E (a : Addr) (D : Cell) (fV fC : Field) (A : Cell) (r : Option Value) (s u : State) : Prop := Got a D fV fC A 0 A.slots.size r s u
/-- new String(chars), not empty, no char above 255: a Latin-1 String of their low bytes -/
theorem law (l : Launch) (a : Addr) (D : Cell) (fV fC : Field) (b : Addr) (A : Cell) (z : Int32) : Law l yN 2 1 3 52 yB 2 none site (P a D fV fC b A z) (E a D fV fC A) [⟨a, fC.slot⟩, ⟨a, fV.slot⟩] 1 A.slots.size := by
  refine Law.of_walk (plainFor_of_name (by decide +kernel)) (by decide +kernel) (by decide +kernel) (by decide) (fun _ _ h => by rw [h.1]; rfl) (fun _ U U' hal hh h => ⟨h.1, h.2.1.mv hal hh, h.2.2.1.al hal, h.2.2.2.1.al hal, h.2.2.2.2.1.mv hal hh, h.2.2.2.2.2.1.there hal hh, h.2.2.2.2.2.2⟩) (fun r U U' V V' h1 hal h2 h => Got.mv r U U' V V' h1 hal h2 h) ?_
  intro p e s m args below meth c s₁ X0 hexec hbytes hml hret hlk hnm hown hh0 W hP
  obtain ⟨rfl, hB, f1, f2, hA, s1, hz, l0, l2, hp⟩ := hP
  have c1 : Steps p.tables e below (s₁.setTop (entryFrame m #[.ref a, .ref b] 2)) (s₁.setTop (mkF m 0 #[.val (.ref a), .val (.ref b)] [])) := entry rfl
  have c2 : Steps p.tables e below (s₁.setTop (entryFrame m #[.ref a, .ref b] 2)) (s₁.setTop (mkF m 6 #[.val (.ref a), .val (.ref b)] [.null, .int (Int32.ofNat A.slots.size), .int 0, .ref b, .ref a])) := c1.trans (by
    refine XS.aloadN X0.here hexec rfl (hb hbytes d0) rfl rfl ?_
    refine XS.aloadN X0.here hexec rfl (hb hbytes d1) rfl rfl ?_
    refine iconstV X0.here hexec rfl 0 (hb hbytes d2) (by decide) ?_
    refine XS.aloadN X0.here hexec rfl (hb hbytes d3) rfl rfl ?_
    refine X0.alen hexec (hA.1.mv X0.warmed.alike hh0) rfl rfl (hb hbytes d4) ?_
    refine XS.aconstNull X0.here hexec rfl (hb hbytes d5) ?_
    exact Steps.refl _)
  obtain ⟨v3, T3, X3, E3, g3⟩ := X0.callN hexec (New4.law l a D fV fC b A z 0 A.slots.size) rfl hown (wks W (initW "java/lang/String" 27 New4.yN)) (W New4.tab (by simp only [site, List.mem_cons, List.mem_append, true_or, or_true])) (W := 0) (Nat.le_of_ble_eq_true rfl) (Nat.le_of_ble_eq_true rfl) (Nat.le_refl _) (by show 0 + A.slots.size ≤ A.slots.size; omega) (g := (mkF m 6 #[.val (.ref a), .val (.ref b)] [.null, .int (Int32.ofNat A.slots.size), .int (Int32.ofNat 0), .ref b, .ref a])) rfl (by rw [hml]; rfl) c2 (argsL := [.ref b, .int (Int32.ofNat 0), .int (Int32.ofNat A.slots.size), .null]) (rest := []) rfl rfl (by show 2 * 0 + 0 ≤ _; decide) (hb hbytes d6) (⟨rfl, hB.mv X0.warmed.alike hh0, f1.al X0.warmed.alike, f2.al X0.warmed.alike, hA.mv X0.warmed.alike hh0, s1.there X0.warmed.alike hh0, hz, l0, by omega, l2, fun i hi => by rw [Nat.zero_add]; exact hp i hi⟩)
  have e0 := Got.mv _ s₁ s _ _ hh0.symm (Vm.Alike.refl _) rfl E3
  obtain rfl := e0.1
  have c4 : Steps p.tables e below (s₁.setTop (entryFrame m #[.ref a, .ref b] 2)) (T3.setTop (mkF m 9 #[.val (.ref a), .val (.ref b)] [])) := g3
  exact ⟨T3, none, _, _, _, X3, by simp, rfl, by omega, (fun _ => rfl), e0, fun fs hl => c4.trans (X3.returnOut hexec hret (hb hbytes d9) hl)⟩
theorem pays {l : Launch} {R : Room} {p : Program} {e : Env} {below : List Frame} {s : State} {sargs : Array Value} {len W : Nat} (a : Addr) (D : Cell) (fV fC : Field) (b : Addr) (A : Cell) (z : Int32) (htab : tab.before sargs s = true) (hfr : 4 ≤ R.frames) (hlo : W + 65 ≤ R.locals) :
    Back l R p e below s sargs yN len W (fun A₁ a₁ => A₁.cells + 1 ≤ R.cells ∧ A₁.slots + A.slots.size ≤ R.slots ∧ P a D fV fC b A z a₁ A₁.U) (fun A₁ _ v₁ B₁ => E a D fV fC A v₁ A₁.U B₁.U ∧ B₁.locs = A₁.locs ++ [⟨a, fC.slot⟩, ⟨a, fV.slot⟩] ∧ B₁.cells = A₁.cells + 1 ∧ B₁.slots = A₁.slots + A.slots.size) :=
  (law l a D fV fC b A z).pays htab hfr (by omega)
end New1
/-- the byte, read back as charAt reads it, is the char -/
theorem lo8_mask {x : Int32} (h0 : ¬ x < 0) (h1 : ¬ 255 < x) : lo8 x &&& 255 = x := by
  have t : ∀ k : Fin 256, lo8 (Int32.ofNat k.val) &&& 255 = Int32.ofNat k.val := by decide +kernel
  rw [Int32.lt_iff_toInt_lt] at h0 h1
  have e0 : (0 : Int32).toInt = 0 := rfl
  have e1 : (255 : Int32).toInt = 255 := rfl
  obtain ⟨k, hk⟩ : ∃ k : Nat, x.toInt = k := ⟨x.toInt.toNat, by omega⟩
  have hx : x = Int32.ofNat k := Int32.toInt_inj.mp (by rw [hk, Int32.toInt_ofNat_small (by omega)])
  rw [hx]
  exact t ⟨k, by omega⟩
end StrChars
namespace StrChars.Road
open Jvm Sem ClassFile Op Lib Jvm.Stand Jvm.Free Jvm.Free.XT
open Jvm.Lib.Cold (StaticIs)
abbrev ST : String := "java/lang/String"
/-- every table word that New1's law asks, flat -/
abbrev words : List Jvm.Cond := [.code New1.yN New1.yB 2 none, .initialized ST, .methodLink ST 27 New4.yN, .instanceMethod New4.yN,
  .code New4.yN New4.yB 6 none, .fieldLink ST 38 ST "COMPACT_STRINGS" "Z", .laysFinal ST ST "value" "[B", .fieldLink ST 9 ST "value" "[B", .laysFinal ST ST "coder" "B", .fieldLink ST 15 ST "coder" "B",
  .methodLink ST 1 Lib.objectInit, .instanceMethod Lib.objectInit, .code Lib.objectInit ⟨#[0xb1]⟩ 1 none, .methodLink ST 177 Cmp3.yN, .static Cmp3.yN, .methodLink ST 47 CodL.yN, .static CodL.yN,
  .code Cmp3.yN Cmp3.yB 6 (some (.array .byte)), .initialized U16, .arrayClass .byte, .methodLink U16 115 Cmp5.yN, .static Cmp5.yN, .code Cmp5.yN Cmp5.yB 7 (some .int), .code CodL.yN CodL.yB 2 (some .byte)]
theorem tab_of {a : Array Value} {s : State} (h : ∀ w ∈ words, w.before a s = true) : New1.tab.before a s = true := by
  have h5 : Cmp5.tab.before a s = true := unparts (wk h (.code Cmp5.yN Cmp5.yB 7 (some .int))) (wks h (.initialized Cmp5.yN.cls :: Cmp5.site))
  have hc : CodL.tab.before a s = true := unparts (wk h (.code CodL.yN CodL.yB 2 (some .byte))) (wks h (.initialized CodL.yN.cls :: CodL.site))
  have q5 : ∀ w ∈ Cmp5.tab :: words, w.before a s = true := fun w hw => (List.mem_cons.mp hw).elim (fun e => e ▸ h5) (h w)
  have h3 : Cmp3.tab.before a s = true := unparts (wk q5 (.code Cmp3.yN Cmp3.yB 6 (some (.array .byte)))) (wks q5 (.initialized Cmp3.yN.cls :: Cmp3.site))
  have q3 : ∀ w ∈ Cmp3.tab :: CodL.tab :: words, w.before a s = true := fun w hw => (List.mem_cons.mp hw).elim (fun e => e ▸ h3) fun hw => (List.mem_cons.mp hw).elim (fun e => e ▸ hc) (h w)
  have h4 : New4.tab.before a s = true := unparts (wk q3 (.code New4.yN New4.yB 6 none)) (wks q3 (.initialized New4.yN.cls :: New4.site))
  have q4 : ∀ w ∈ New4.tab :: words, w.before a s = true := fun w hw => (List.mem_cons.mp hw).elim (fun e => e ▸ h4) (h w)
  exact unparts (wk q4 (.code New1.yN New1.yB 2 none)) (wks q4 (.initialized New1.yN.cls :: New1.site))
/-- the words ride from the start Z to the walk's own state -/
theorem moved {Z s : State} {a0 args : Array Value} (hZ : Z.Warmed39 s.vm) (hw : ∀ d ∈ words, d.before a0 Z = true) : ∀ d ∈ words, d.before args s = true := fun d hd => by
  have q := hw d hd
  have t : ∀ d ∈ words, d = .arrayClass .byte ∨ (d.onTables && d.keepsFace) = true := by decide +kernel
  rcases t d hd with rfl | t
  · exact RoadKit.mvA hZ q
  · exact RoadKit.mv hZ q t
/-- WHAT COMES BACK, over the tables of the start Z: h the heap at the call, h' behind it -/
def Q (Z : State) (x : Addr) (A : Cell) (h : Heap) (v : Option Value) (h' : Heap) (L : List Loc) : Prop := v = none ∧ (∀ y ∈ L, y.base = x) ∧ RoadKit.Keep h h' [x] ∧ h'.size = h.size + 1 ∧ RoadKit.Exa Z h' x ST ∧ RoadKit.Fld Z h' x ST "value" "[B" (.ref h.size) ∧ RoadKit.Fld Z h' x ST "coder" "B" (.int 0) ∧
  (∃ V : Cell, RoadKit.Arr Z h' h.size V .byte ∧ V.vm = .none ∧ Z.vm.findClass "[B" = some V.cls ∧ V.slots.size = A.slots.size ∧ ∀ j, j < A.slots.size → V.slots[j]? = some (.int (lo8 (cv A j)))) ∧
  ∀ (O n d : String) (w : Value), RoadKit.Fld Z h x O n d w → RoadKit.slotOf Z O n d ≠ RoadKit.slotOf Z ST "value" "[B" → RoadKit.slotOf Z O n d ≠ RoadKit.slotOf Z ST "coder" "B" → RoadKit.Fld Z h' x O n d w
/-- **new String(chars) AT A CALL, IN THE ROAD'S FORM**: for specialBack behind newO: x the fresh String, b the char[] with the cell A -/
theorem back {p : Program} {l : Launch} {e : Env} {R : Room} {s : State} {args : Array Value} {below : List Frame} {len W : Nat} {Z : State} {a0 : Array Value} {h : Heap} (hZ : Z.Warmed39 s.vm) (hw : ∀ d ∈ words, d.before a0 Z = true) {kI : Nat} (wi : (Jvm.Cond.instantiable ST kI).before a0 Z = true)
    {x b : Addr} {A : Cell} {z : Int32} {v0 c0 : Value} (E : RoadKit.Exa Z h x ST) (V : RoadKit.Fld Z h x ST "value" "[B" v0) (C : RoadKit.Fld Z h x ST "coder" "B" c0) (K : RoadKit.Arr Z h b A .char) (hty : Typed .char A) (S : RoadKit.Sta Z h ST "COMPACT_STRINGS" "Z" (.int z)) (hz : ¬ z = 0)
    (l0 : 0 < A.slots.size) (l2 : A.slots.size ≤ 536870912) (hp : ∀ i, i < A.slots.size → ¬ 255 < cv A i) (hfr : 4 ≤ R.frames) (hlo : W + 65 ≤ R.locals) :
    Back l R p e below s args New1.yN len W (fun P a => a = #[.ref x, .ref b] ∧ P.U.heap = h ∧ P.cells + 1 ≤ R.cells ∧ P.slots + A.slots.size ≤ R.slots)
      (fun P _ v B => ∃ L, Q Z x A h v B.U.heap L ∧ B.locs = P.locs ++ L ∧ B.cells = P.cells + 1 ∧ B.slots = P.slots + A.slots.size) := by
  intro m meth c P g ig mk a X hg hsize hdg hW hn hp'
  obtain ⟨rfl, rfl, r1, r2⟩ := hp'
  have al : Z.vm.Alike P.U.vm := hZ.alike.trans X.warmed.alike
  obtain ⟨D, cfV, kV, iV, fV, hD, gV, stV, knV, obV, asV, slV⟩ := id V
  obtain ⟨D', cfC, kC, iC, fC, hD', gC, stC, -, -, asC, slC⟩ := id C
  cases hD.symm.trans hD'
  obtain ⟨D2, kD, e1, e2, e3, e4, e5⟩ := id E
  cases hD.symm.trans e1
  obtain ⟨c2, k2, i1, i2, i3, -⟩ := Cond.instantiable_spec wi
  cases e2.symm.trans i1
  cases e3.symm.trans i2
  obtain ⟨kU, u1, u2⟩ := al.2.2 _ _ e3
  have hB : Blank ST x D P.U := ⟨hD, ⟨knV, fun q hq => by rw [hq] at obV; cases obV⟩, by rw [al.findClass]; exact e2, kU, u1, by rw [u2]; exact i3, by rw [u2]; exact e5 i3⟩
  have F1 : Found ST "value" "[B" fV P.U := ⟨SBG.found_only al ⟨cfV, kV, iV, gV⟩, stV⟩
  have F2 : Found ST "coder" "B" fC P.U := ⟨SBG.found_only al ⟨cfC, kC, iC, gC⟩, stC⟩
  have hA : Ch b A P.U := ⟨⟨K.1, State.isArrayOf_alike al K.2.1, K.2.2, by omega⟩, hty⟩
  have hS : StaticIs P.U ST "COMPACT_STRINGS" "Z" (.int z) := by
    obtain ⟨cfS, iS, kS, fS, st, cS, t1, t2, t3, t4, t5, t6, t7⟩ := S
    exact StaticIs.there (s := { Z with heap := P.U.heap }) ⟨cfS, iS, kS, fS, st, cS, t1, t2, t3, t4, t5, (fun q => by rw [q] at t6; cases t6), t7⟩ al rfl
  obtain ⟨v, B, X', ⟨⟨hv, E', V', q1, q2, q3, q4, q5, q6, q7, q8, q9, q10, q11⟩, hl, hc, hs⟩, st⟩ := New1.pays x D fV fC b A z (tab_of (moved hZ hw)) hfr hlo m meth c P g ig mk _ X hg hsize hdg hW hn ⟨r1, r2, rfl, hB, F1, F2, hA, hS, hz, l0, l2, hp⟩
  have al' : Z.vm.Alike B.U.vm := hZ.alike.trans X'.warmed.alike
  have hsz : E'.slots.size = D.slots.size := by
    obtain ⟨-, -, -, kB, w1, w2, w3⟩ := q1
    obtain ⟨kB', y1, y2⟩ := al'.2.2 _ _ e3
    rw [q2.2.1] at w1
    cases w1.symm.trans y1
    rw [w3, e5 i3, y2]
  refine ⟨v, B, X', ⟨_, ⟨hv, ?_, ⟨by omega, fun y cy hy hn' => q10 y cy (by simpa using hn') hy, fun y cy hy => ?_⟩, q11, ⟨E', _, q1.1, by rw [q2.2.1]; exact e2, by rw [q2.2.1]; exact e3, by rw [q2.1]; exact obV, fun _ => by rw [hsz]; exact e5 i3⟩,
    ⟨E', cfV, kV, iV, fV, q1.1, gV, stV, by rw [q2.1]; exact knV, by rw [q2.1]; exact obV, by rw [q2.2.1]; exact asV, q3⟩, ⟨E', cfC, kC, iC, fC, q1.1, gC, stC, by rw [q2.1]; exact knV, by rw [q2.1]; exact obV, by rw [q2.2.1]; exact asC, q4⟩,
    ⟨V', ⟨q5.1, State.isArrayOf_alike al'.symm q5.2.1, q5.2.2.1⟩, q6, by rw [← al'.findClass]; exact q7, q8, fun j hj => by have := q9 j hj; rwa [Nat.zero_add] at this⟩, fun O n d w F n1 n2 => ?_⟩, hl, hc, hs⟩, st⟩
  · intro y hy
    simp only [List.mem_cons, List.not_mem_nil, or_false] at hy
    rcases hy with rfl | rfl <;> rfl
  · by_cases q : y = x
    · subst q
      cases hD.symm.trans hy
      exact ⟨E', q1.1, q2.2.1, q2.1, hsz⟩
    · exact ⟨cy, q10 y cy q hy, rfl, rfl, rfl⟩
  · obtain ⟨D3, cf, k, i, f, g1, g2, g3, g4, g5, g6, g7⟩ := F
    cases hD.symm.trans g1
    simp only [RoadKit.slotOf, g2, gV, gC, Option.map_some, Option.getD_some] at n1 n2
    exact ⟨E', cf, k, i, f, q1.1, g2, g3, by rw [q2.1]; exact g4, by rw [q2.1]; exact g5, by rw [q2.2.1]; exact g6, by rw [q2.2.2 f.slot (by simp [n1, n2])]; exact g7⟩
end StrChars.Road
namespace StrChars.Road
open Jvm Sem ClassFile Op Lib Jvm.Stand Jvm.Free Jvm.Free.XT
/-- WHAT COMES BACK, the byte[] as a list of values -/
def QA (Z : State) (x : Addr) (zn : Int32) (cs : List Int32) (h : Heap) (v : Option Value) (h' : Heap) (L : List Loc) : Prop := v = none ∧ (∀ y ∈ L, y.base = x) ∧ RoadKit.Keep h h' [x] ∧ h'.size = h.size + 1 ∧ RoadKit.Exa Z h' x ST ∧ RoadKit.Fld Z h' x ST "value" "[B" (.ref h.size) ∧ RoadKit.Fld Z h' x ST "coder" "B" (.int 0) ∧
  (∃ kb, Z.vm.findClass "[B" = some kb ∧ RoadKit.Arv Z h' h.size kb .byte zn (cs.map fun c => .int (lo8 c)) (.int 0)) ∧
  ∀ (O n d : String) (w : Value), RoadKit.Fld Z h x O n d w → RoadKit.slotOf Z O n d ≠ RoadKit.slotOf Z ST "value" "[B" → RoadKit.slotOf Z O n d ≠ RoadKit.slotOf Z ST "coder" "B" → RoadKit.Fld Z h' x O n d w
/-- **new String(chars) AT A CALL, THE ARRAYS AS LISTS**: the char[] at b holds cs, not empty, no char above 255 -/
theorem backArv {p : Program} {l : Launch} {e : Env} {R : Room} {s : State} {args : Array Value} {below : List Frame} {len W : Nat} {Z : State} {a0 : Array Value} {h : Heap} (hZ : Z.Warmed39 s.vm) (hw : ∀ d ∈ words, d.before a0 Z = true) {kI : Nat} (wi : (Jvm.Cond.instantiable ST kI).before a0 Z = true)
    {x b : Addr} {k : ClassId} {zn z : Int32} {cs : List Int32} {dv v0 c0 : Value} (E : RoadKit.Exa Z h x ST) (V : RoadKit.Fld Z h x ST "value" "[B" v0) (C : RoadKit.Fld Z h x ST "coder" "B" c0) (K : RoadKit.Arv Z h b k .char zn (cs.map Value.int) dv) (S : RoadKit.Sta Z h ST "COMPACT_STRINGS" "Z" (.int z)) (hz : ¬ z = 0)
    (hlen : zn.toNatClampNeg = cs.length) (h0 : 0 < cs.length) (hbig : cs.length ≤ 536870912) (hall : ∀ c ∈ cs, ¬ 255 < c) (hfr : 4 ≤ R.frames) (hlo : W + 65 ≤ R.locals) :
    Back l R p e below s args New1.yN len W (fun P a => a = #[.ref x, .ref b] ∧ P.U.heap = h ∧ P.cells + 1 ≤ R.cells ∧ P.slots + cs.length ≤ R.slots)
      (fun P _ v B => ∃ L, QA Z x zn cs h v B.U.heap L ∧ B.locs = P.locs ++ L ∧ B.cells = P.cells + 1 ∧ B.slots = P.slots + cs.length) := by
  obtain ⟨A, K1, K2, K3, K4, K5, K6⟩ := K
  have e : A.slots.size = cs.length := K3.trans hlen
  have hat : ∀ (i : Nat) (hi : i < cs.length), A.slots[i]? = some (.int cs[i]) := fun i hi => by rw [K5 i (by omega)]; simp [List.getD_eq_getElem?_getD, hi]
  have hcv : ∀ (i : Nat) (hi : i < cs.length), cv A i = cs[i] := fun i hi => by unfold cv; rw [hat i hi]
  have hty : Typed .char A := fun i v hv => by
    have hi : i < A.slots.size := (Array.getElem?_eq_some_iff.mp hv).1
    have q := K5 i hi
    rw [hv] at q
    rw [Option.some.inj q]
    exact K6 i hi
  refine Back.mono (back hZ hw wi E V C K1 hty S hz (by omega) (by omega) (fun i hi => by rw [hcv i (by omega)]; exact hall _ (List.getElem_mem _)) hfr hlo) (fun P a hp => ⟨hp.1, hp.2.1, hp.2.2.1, by rw [e]; exact hp.2.2.2⟩) (fun P a v B hp hq => ?_)
  obtain ⟨L, ⟨q1, q2, q3, q4, q5, q6, q7, ⟨V', v1, v2, v3, v4, v5⟩, q9⟩, hl, hc, hs⟩ := hq
  refine ⟨L, ⟨q1, q2, q3, q4, q5, q6, q7, ⟨V'.cls, v3, V', v1, rfl, by rw [v4, e, hlen], K4, fun i hi => ?_, fun i hi => ?_⟩, q9⟩, hl, hc, by rw [hs, e]⟩
  · have hi' : i < cs.length := by omega
    rw [v5 i (by omega), hcv i hi']; simp [List.getD_eq_getElem?_getD, hi']
  · have hi' : i < cs.length := by omega
    simp only [List.getD_eq_getElem?_getD, List.getElem?_map, List.getElem?_eq_getElem hi', Option.map_some, Option.getD_some]
    exact fits_lo8 _
end StrChars.Road
namespace StrChars.Road
open Jvm Sem ClassFile Op Lib Jvm.Stand Jvm.Free Jvm.Free.XT
/-- WHAT COMES BACK, in the writer's own shape -/
def QV (Z : State) (x : Addr) (N : Int32) (bs : List Int32) (h : Heap) (n0 : Nat) (v : Option Value) (h' : Heap) (L : List Loc) : Prop := v = none ∧ RoadKit.Fr n0 L ∧ RoadKit.Keep h h' [x] ∧ RoadKit.Exa Z h' x ST ∧ RoadKit.Fld Z h' x ST "coder" "B" (.int 0) ∧
  ∃ (t : Addr) (kb : ClassId), n0 ≤ t ∧ h.size ≤ t ∧ ¬ t = x ∧ RoadKit.Fld Z h' x ST "value" "[B" (.ref t) ∧ RoadKit.Arv Z h' t kb .byte N (bs.map Value.int) (.int 0)
/-- **new String(chars) AT A CALL, FOR THE WRITER**: a char[] of n known ints, each 0 to 255 -/
theorem backV {p : Program} {l : Launch} {e : Env} {R : Room} {s : State} {args : Array Value} {below : List Frame} {len W : Nat} {Z : State} {a0 : Array Value} {h : Heap} (hZ : Z.Warmed39 s.vm) (hw : ∀ d ∈ words, d.before a0 Z = true) {kI : Nat} (wi : (Jvm.Cond.instantiable ST kI).before a0 Z = true)
    {x b : Addr} {kC : ClassId} {cs bs : List Int32} {d v0 c0 : Value} {z N : Int32} {n n0 : Nat} (hx0 : n0 ≤ x) (hh0 : n0 ≤ h.size) (E : RoadKit.Exa Z h x ST) (V : RoadKit.Fld Z h x ST "value" "[B" v0) (C : RoadKit.Fld Z h x ST "coder" "B" c0) (K : RoadKit.Arv Z h b kC .char N (cs.map Value.int) d) (S : RoadKit.Sta Z h ST "COMPACT_STRINGS" "Z" (.int z)) (hz : ¬ z = 0)
    (hn : cs.length = n) (hN : N = Int32.ofNat n) (l0 : 0 < n) (l2 : n ≤ 4000) (hp : ∀ c ∈ cs, ¬ c < 0 ∧ ¬ (255 : Int32) < c) (hb : bs = cs.map (fun c => c.toInt8.toInt32)) (hfr : 4 ≤ R.frames) (hlo : W + 65 ≤ R.locals) :
    Back l R p e below s args (⟨"java/lang/String", "<init>", "([C)V"⟩ : MethodName) len W (fun P a => a = #[.ref x, .ref b] ∧ P.U.heap = h ∧ P.cells + 1 ≤ R.cells ∧ P.slots + n ≤ R.slots)
      (fun P _ v B => ∃ L, QV Z x N bs h n0 v B.U.heap L ∧ B.locs = P.locs ++ L ∧ B.cells = P.cells + 1 ∧ B.slots = P.slots + n) := by
  subst hn hN hb
  refine Back.mono (backArv hZ hw wi E V C K S hz (n32 (by omega)) l0 (by omega) (fun c hc => (hp c hc).2) hfr hlo) (fun P a hp => hp) (fun P a v B hp hq => ?_)
  obtain ⟨L, ⟨q1, q2, q3, q4, q5, q6, q7, ⟨kb, v1, v2⟩, q9⟩, hl, hc, hs⟩ := hq
  exact ⟨L, ⟨q1, fun y hy => by rw [q2 y hy]; exact hx0, q3, q5, q7, h.size, kb, hh0, Nat.le_refl _, Nat.ne_of_gt E.lt, q6, by rw [List.map_map]; exact v2⟩, hl, hc, hs⟩
end StrChars.Road
namespace StrChars
open Jvm Sem ClassFile Op Lib Jvm.Stand Jvm.Free.XT Jvm.Free.ALB Jvm.Free.JM Jvm.Free
open Jvm.Lib.Cold (StaticIs)
def hi8 (x : Int32) : Int32 := lo8 (x >>> ((8 : Int32) &&& 31))
/-- what StringUTF16.getChar makes of two bytes -/
def pairCh (u v : Int32) : Int32 := (((u &&& 255) <<< ((0 : Int32) &&& 31)) ||| ((v &&& 255) <<< ((8 : Int32) &&& 31))).toUInt32.toUInt16.toUInt32.toInt32
theorem shr0 (c : Int32) : c >>> ((0 : Int32) &&& 31) = c := by
  have e : ((0 : Int32) &&& 31) = 0 := by decide
  rw [e]
  apply Int32.toBitVec_inj.mp
  rw [Int32.toBitVec_shiftRight]
  have e1 : ((0 : Int32).toBitVec.smod 32) = 0#32 := by decide
  rw [e1, BitVec.sshiftRight_eq']
  exact BitVec.sshiftRight_zero
theorem lo8_and (x : Int32) : (lo8 x &&& 255).toBitVec.toNat = x.toBitVec.toNat % 256 := by
  have h : (lo8 x).toBitVec = (x.toBitVec.signExtend 8).signExtend 32 := by rw [lo8, Int8.toBitVec_toInt32, Int32.toBitVec_toInt8]
  rw [Int32.toBitVec_and, BitVec.toNat_and, h]
  have e : ((x.toBitVec.signExtend 8).signExtend 32).toNat % 256 = x.toBitVec.toNat % 256 := by
    rw [BitVec.toNat_signExtend]
    have hlt := x.toBitVec.isLt
    simp only [BitVec.toNat_setWidth, BitVec.toNat_signExtend]
    split <;> split <;> omega
  rw [← e]
  exact Nat.and_two_pow_sub_one_eq_mod _ 8
theorem pair_says {c : Int32} (h0 : ¬ c < 0) (h1 : ¬ 65535 < c) : pairCh (lo8 c) (hi8 c) = c := by
  rw [Int32.lt_iff_toInt_lt] at h0 h1
  have e0 : (0 : Int32).toInt = 0 := rfl
  have e1 : (65535 : Int32).toInt = 65535 := rfl
  have hc : c.toInt = c.toBitVec.toNat := by
    have := c.toBitVec.isLt
    have e : c.toInt = c.toBitVec.toInt := rfl
    rw [e] at h0 h1
    rw [e]
    rw [BitVec.toInt_eq_toNat_cond] at h0 h1 ⊢
    split at h0 <;> split <;> omega
  have hn : c.toBitVec.toNat < 65536 := by omega
  have a1 := lo8_and c
  have a2 : (hi8 c &&& 255).toBitVec.toNat = c.toBitVec.toNat / 256 := by
    rw [hi8, lo8_and]
    have e : ((8 : Int32) &&& 31) = 8 := by decide
    rw [e, Int32.toBitVec_shiftRight]
    have e2 : ((8 : Int32).toBitVec.smod 32) = 8#32 := by decide
    rw [e2, BitVec.sshiftRight_eq', BitVec.toNat_sshiftRight_of_msb_false (by rw [BitVec.msb_eq_false_iff_two_mul_lt]; omega)]
    show c.toBitVec.toNat >>> 8 % 256 = _
    rw [Nat.shiftRight_eq_div_pow]
    omega
  unfold pairCh
  apply Int32.toBitVec_inj.mp
  apply BitVec.eq_of_toNat_eq
  have f0 : ((0 : Int32) &&& 31) = 0 := by decide
  have f8 : ((8 : Int32) &&& 31) = 8 := by decide
  rw [f0, f8]
  have g : (((lo8 c &&& 255) <<< (0 : Int32)) ||| ((hi8 c &&& 255) <<< (8 : Int32))).toBitVec.toNat = c.toBitVec.toNat := by
    rw [Int32.toBitVec_or, Int32.toBitVec_shiftLeft, Int32.toBitVec_shiftLeft]
    have s0 : ((0 : Int32).toBitVec.smod 32) = 0#32 := by decide
    have s8 : ((8 : Int32).toBitVec.smod 32) = 8#32 := by decide
    rw [s0, s8, BitVec.toNat_or]
    simp only [BitVec.shiftLeft_eq', BitVec.toNat_shiftLeft, a1, a2]
    show (c.toBitVec.toNat % 256) <<< 0 % 2 ^ 32 ||| (c.toBitVec.toNat / 256) <<< 8 % 2 ^ 32 = _
    rw [Nat.shiftLeft_zero, Nat.mod_eq_of_lt (show c.toBitVec.toNat % 256 < 2 ^ 32 by omega), Nat.mod_eq_of_lt (show (c.toBitVec.toNat / 256) <<< 8 < 2 ^ 32 by rw [Nat.shiftLeft_eq]; omega), Nat.or_comm, ← Nat.shiftLeft_add_eq_or_of_lt (by omega), Nat.shiftLeft_eq]
    omega
  show BitVec.toNat (((((lo8 c &&& 255) <<< (0 : Int32)) ||| ((hi8 c &&& 255) <<< (8 : Int32))).toBitVec.setWidth 16).setWidth 32) = _
  rw [BitVec.toNat_setWidth, BitVec.toNat_setWidth, g]
  omega
end StrChars
namespace StrChars
open Jvm Sem ClassFile Op Lib Jvm.Stand Jvm.Free.XT Jvm.Free.ALB Jvm.Free.JM Jvm.Free
open Jvm.Lib.Cold (StaticIs)
theorem shr1 {n : Nat} (h : 2 * n < 2 ^ 31) : Int32.ofNat (2 * n) >>> ((1 : Int32) &&& 31) = Int32.ofNat n := by
  have e : ((1 : Int32) &&& 31) = 1 := by decide
  rw [e]
  apply Int32.toBitVec_inj.mp
  rw [Int32.toBitVec_shiftRight]
  have e1 : ((1 : Int32).toBitVec.smod 32) = 1#32 := by decide
  have hm : (BitVec.ofNat 32 (2 * n)).toNat = 2 * n := by rw [BitVec.toNat_ofNat, Nat.mod_eq_of_lt (by omega)]
  rw [e1, BitVec.sshiftRight_eq']
  apply BitVec.eq_of_toNat_eq
  show ((BitVec.ofNat 32 (2 * n)).sshiftRight 1).toNat = (BitVec.ofNat 32 n).toNat
  rw [BitVec.toNat_sshiftRight_of_msb_false (by rw [BitVec.msb_eq_false_iff_two_mul_lt, hm]; omega), hm, BitVec.toNat_ofNat, Nat.shiftRight_eq_div_pow]
  omega
/-- charAt's cast of a byte read back -/
def chr8 (u : Int32) : Int32 := (u &&& 255).toUInt32.toUInt16.toUInt32.toInt32
theorem chr8_lo8 {c : Int32} (h0 : ¬ c < 0) (h1 : ¬ 255 < c) : chr8 (lo8 c) = c := by
  have t : ∀ k : Fin 256, (Int32.ofNat k.val).toUInt32.toUInt16.toUInt32.toInt32 = Int32.ofNat k.val := by decide +kernel
  unfold chr8
  rw [lo8_mask h0 h1]
  rw [Int32.lt_iff_toInt_lt] at h0 h1
  have e0 : (0 : Int32).toInt = 0 := rfl
  have e1 : (255 : Int32).toInt = 255 := rfl
  obtain ⟨k, hk⟩ : ∃ k : Nat, c.toInt = k := ⟨c.toInt.toNat, by omega⟩
  have hx : c = Int32.ofNat k := Int32.toInt_inj.mp (by rw [hk, Int32.toInt_ofNat_small (by omega)])
  rw [hx]
  exact t ⟨k, by omega⟩
/-- the array's cell V codes the n chars f 0 .. f (n - 1) by the coder cd, as the JDK does: coder 1 just where some char is above 255 -/
def Cod (cd : Int32) (n : Nat) (f : Nat → Int32) (V : Cell) : Prop := (cd = 0 ∧ V.slots.size = n ∧ ∀ j, j < n → V.slots[j]? = some (.int (lo8 (f j))) ∧ ¬ 255 < f j) ∨ (cd = 1 ∧ V.slots.size = 2 * n ∧ (∀ j, j < n → V.slots[2 * j]? = some (.int (lo8 (f j))) ∧ V.slots[2 * j + 1]? = some (.int (hi8 (f j)))) ∧ ∃ j, j < n ∧ 255 < f j)
theorem Cod.cd {cd : Int32} {n : Nat} {f : Nat → Int32} {V : Cell} (h : Cod cd n f V) : cd = 0 ∨ cd = 1 := h.imp (fun q => q.1) fun q => q.1
theorem Cod.len {cd : Int32} {n : Nat} {f : Nat → Int32} {V : Cell} (h : Cod cd n f V) (hs : V.slots.size < 2 ^ 31) : Int32.ofNat V.slots.size >>> (cd &&& 31) = Int32.ofNat n := by
  rcases h with ⟨rfl, h, -⟩ | ⟨rfl, h, -⟩
  · rw [shr0, h]
  · rw [h, shr1 (by omega)]
/-- **x is a String of the n chars f 0 .. f (n - 1)**, Latin-1 or UTF-16; its array at t has the cell V -/
def Txt (x t : Addr) (V : Cell) (cd : Int32) (n : Nat) (f : Nat → Int32) (U : State) : Prop := Exact "java/lang/String" x U ∧ Has x "java/lang/String" "value" "[B" (.ref t) U ∧ Has x "java/lang/String" "coder" "B" (.int cd) U ∧ XT.Arr .byte t V U ∧ Cod cd n f V ∧ ∀ j, j < n → ¬ f j < 0 ∧ ¬ 65535 < f j
theorem Txt.mv {x t : Addr} {V : Cell} {cd : Int32} {n : Nat} {f : Nat → Int32} {U U' : State} (h : Txt x t V cd n f U) (hal : U.vm.Alike U'.vm) (hh : U'.heap = U.heap) : Txt x t V cd n f U' := ⟨h.1.mv hal hh, h.2.1.mv hal hh, h.2.2.1.mv hal hh, h.2.2.2.1.mv hal hh, h.2.2.2.2⟩
namespace Cdr
def yN : MethodName := ⟨"java/lang/String", "coder", "()B"⟩
abbrev yB : ByteArray := jdk_42_method_152_code
theorem d0 : decode yB 0 = .ok (.getstatic 38, 3) := by decide +kernel
theorem d3 : decode yB 3 = .ok (.ifCond (.eq) 10, 3) := by decide +kernel
theorem d6 : decode yB 6 = .ok (.aload_n 0, 1) := by decide +kernel
theorem d7 : decode yB 7 = .ok (.getfield 15, 3) := by decide +kernel
theorem d10 : decode yB 10 = .ok (.goto 4, 3) := by decide +kernel
theorem d14 : decode yB 14 = .ok (.ireturn, 1) := by decide +kernel
def site : List Cond := [.fieldLink "java/lang/String" 38 "java/lang/String" "COMPACT_STRINGS" "Z", .fieldLink "java/lang/String" 15 "java/lang/String" "coder" "B"]
def tab : Cond := tabOf yN yB 1 (some .byte) site
def P (x : Addr) (cd z : Int32) (args : Array Value) (s : State) : Prop := args = #[.ref x] ∧ Has x "java/lang/String" "coder" "B" (.int cd) s ∧ (cd = 0 ∨ cd = 1) ∧ StaticIs s "java/lang/String" "COMPACT_STRINGS" "Z" (.int z) ∧ ¬ z = 0
def E (cd : Int32) (r : Option Value) (s u : State) : Prop := XT.PureE (some (.int cd)) r s u
theorem law (l : Launch) (x : Addr) (cd z : Int32) : Law l yN 1 0 0 0 yB 1 (some .byte) site (P x cd z) (E cd) [] 0 0 := by
  refine Law.of_walk (plainFor_of_name (by decide +kernel)) (by decide +kernel) (by decide +kernel) (by decide) (fun _ _ h => by rw [h.1]; rfl) (fun _ U U' hal hh h => ⟨h.1, h.2.1.mv hal hh, h.2.2.1, h.2.2.2.1.there hal hh, h.2.2.2.2⟩) (fun r U U' V V' h1 hal h2 h => XT.PureE.mv r U U' V V' h1 hal h2 h) ?_
  intro p e s m args below meth c s₁ X0 hexec hbytes hml hret hlk hnm hown hh0 W hP
  obtain ⟨rfl, hx, hc, s1, hz⟩ := hP
  have c1 : Steps p.tables e below (s₁.setTop (entryFrame m #[.ref x] 1)) (s₁.setTop (mkF m 0 #[.val (.ref x)] [])) := entry rfl
  obtain ⟨T2, X2, q2, st2⟩ := X0.sget hexec hown (wk W (.fieldLink "java/lang/String" 38 "java/lang/String" "COMPACT_STRINGS" "Z")) s1 (fun _ _ h => by rw [hh0]; exact h) (g := (mkF m 0 #[.val (.ref x)] [])) rfl (hb hbytes d0)
  have hh2 := q2.trans hh0
  have c3 : Steps p.tables e below (s₁.setTop (entryFrame m #[.ref x] 1)) (T2.setTop (mkF m 7 #[.val (.ref x)] [.ref x])) := (c1.trans (st2 _ (Steps.refl _))).trans (by
    refine XS.ifNo X2.here hexec rfl (hb hbytes d3) rfl (i0_eq_f hz) ?_
    refine XS.aloadN X2.here hexec rfl (hb hbytes d6) rfl rfl ?_
    exact Steps.refl _)
  obtain ⟨T4, X4, q4, st4⟩ := X2.hget hexec hown (wk W (.fieldLink "java/lang/String" 15 "java/lang/String" "coder" "B")) (hx.mv X2.warmed.alike hh2) (g := (mkF m 7 #[.val (.ref x)] [.ref x])) rfl (rest := []) rfl (hb hbytes d7)
  have c5 : Steps p.tables e below (s₁.setTop (entryFrame m #[.ref x] 1)) (T4.setTop (mkF m 14 #[.val (.ref x)] [.int cd])) := (c3.trans (st4 _ (Steps.refl _))).trans (by
    refine XS.goto X4.here hexec rfl (pc0 := 10) rfl (hb hbytes d10) (by decide) rfl ?_
    exact Steps.refl _)
  exact ⟨T4, some (.int cd), _, _, _, X4, rfl, rfl, rfl, (fun h => by cases h), ⟨rfl, q4.trans hh2⟩, fun fs hl => c5.trans (X4.ireturnOut hexec hret (by rcases hc with rfl | rfl <;> rfl) (Or.inr (Or.inr (Or.inl rfl))) (hb hbytes d14) hl)⟩
end Cdr
namespace Len
def yN : MethodName := ⟨"java/lang/String", "length", "()I"⟩
abbrev yB : ByteArray := jdk_42_method_54_code
theorem d0 : decode yB 0 = .ok (.aload_n 0, 1) := by decide +kernel
theorem d1 : decode yB 1 = .ok (.getfield 9, 3) := by decide +kernel
theorem d4 : decode yB 4 = .ok (.arraylength, 1) := by decide +kernel
theorem d5 : decode yB 5 = .ok (.aload_n 0, 1) := by decide +kernel
theorem d6 : decode yB 6 = .ok (.invokevirtual 335, 3) := by decide +kernel
theorem d9 : decode yB 9 = .ok (.ishr, 1) := by decide +kernel
theorem d10 : decode yB 10 = .ok (.ireturn, 1) := by decide +kernel
def site : List Cond := [.fieldLink "java/lang/String" 9 "java/lang/String" "value" "[B", Cdr.tab] ++ virtW "java/lang/String" 335 "java/lang/String" Cdr.yN Cdr.yN
def tab : Cond := tabOf yN yB 1 (some .int) site
def P (x t : Addr) (V : Cell) (cd : Int32) (n : Nat) (f : Nat → Int32) (z : Int32) (args : Array Value) (s : State) : Prop := args = #[.ref x] ∧ Txt x t V cd n f s ∧ StaticIs s "java/lang/String" "COMPACT_STRINGS" "Z" (.int z) ∧ ¬ z = 0
def E (n : Nat) (r : Option Value) (s u : State) : Prop := XT.PureE (some (.int (Int32.ofNat n))) r s u
/-- length() of a String of n chars, in either coding -/
theorem law (l : Launch) (x t : Addr) (V : Cell) (cd : Int32) (n : Nat) (f : Nat → Int32) (z : Int32) : Law l yN 1 0 1 13 yB 1 (some .int) site (P x t V cd n f z) (E n) [] 0 0 := by
  refine Law.of_walk (plainFor_of_name (by decide +kernel)) (by decide +kernel) (by decide +kernel) (by decide) (fun _ _ h => by rw [h.1]; rfl) (fun _ U U' hal hh h => ⟨h.1, h.2.1.mv hal hh, h.2.2.1.there hal hh, h.2.2.2⟩) (fun r U U' V V' h1 hal h2 h => XT.PureE.mv r U U' V V' h1 hal h2 h) ?_
  intro p e s m args below meth c s₁ X0 hexec hbytes hml hret hlk hnm hown hh0 W hP
  obtain ⟨rfl, hx, s1, hz⟩ := hP
  have v31 := hx.2.2.2.1.2.2.2
  have c1 : Steps p.tables e below (s₁.setTop (entryFrame m #[.ref x] 1)) (s₁.setTop (mkF m 1 #[.val (.ref x)] [.ref x])) := Steps.trans (entry rfl) (by
    show Steps p.tables e below (s₁.setTop (mkF m 0 #[.val (.ref x)] [])) _
    refine XS.aloadN X0.here hexec rfl (hb hbytes d0) rfl rfl ?_
    exact Steps.refl _)
  obtain ⟨T2, X2, q2, st2⟩ := X0.hget hexec hown (wk W (.fieldLink "java/lang/String" 9 "java/lang/String" "value" "[B")) (hx.mv X0.warmed.alike hh0).2.1 (g := (mkF m 1 #[.val (.ref x)] [.ref x])) rfl (rest := []) rfl (hb hbytes d1)
  have hh2 := q2.trans hh0
  have hx2 := hx.mv X2.warmed.alike hh2
  have c3 : Steps p.tables e below (s₁.setTop (entryFrame m #[.ref x] 1)) (T2.setTop (mkF m 6 #[.val (.ref x)] [.ref x, .int (Int32.ofNat V.slots.size)])) := (c1.trans (st2 _ (Steps.refl _))).trans (by
    refine X2.alen hexec hx2.2.2.2.1 rfl rfl (hb hbytes d4) ?_
    refine XS.aloadN X2.here hexec rfl (hb hbytes d5) rfl rfl ?_
    exact Steps.refl _)
  obtain ⟨v4, T4, X4, E4, g4⟩ := X2.callV hexec (Cdr.law l x cd z) hown (wks W (virtW "java/lang/String" 335 "java/lang/String" Cdr.yN Cdr.yN)) rfl (by decide) (wk W Cdr.tab) (W := 1) (Nat.le_of_ble_eq_true rfl) (Nat.le_of_ble_eq_true rfl) (Nat.le_refl _) (Nat.le_refl _) (hx2.1.fc X2.warmed.alike) hx2.1.is (g := (mkF m 6 #[.val (.ref x)] [.ref x, .int (Int32.ofNat V.slots.size)])) rfl (by rw [hml]; rfl) c3 (argsL := []) (rest := [.int (Int32.ofNat V.slots.size)]) rfl rfl (by show 2 * 0 + (1 + 0) ≤ _; decide) (hb hbytes d6) (⟨rfl, hx2.2.2.1, hx.2.2.2.2.1.cd, s1.there X2.warmed.alike hh2, hz⟩)
  obtain ⟨rfl, q4⟩ := E4
  have c5 : Steps p.tables e below (s₁.setTop (entryFrame m #[.ref x] 1)) (T4.setTop (mkF m 10 #[.val (.ref x)] [.int (Int32.ofNat V.slots.size >>> (cd &&& 31))])) := Steps.trans g4 (by
    refine ishr X4.here hexec rfl (hb hbytes d9) rfl ?_
    exact Steps.refl _)
  rw [hx.2.2.2.2.1.len v31] at c5
  exact ⟨T4, some (.int (Int32.ofNat n)), _, _, _, X4, rfl, rfl, rfl, (fun h => by cases h), ⟨rfl, q4.trans hh2⟩, fun fs hl => c5.trans (X4.ireturnOut hexec hret rfl (Or.inl rfl) (hb hbytes d10) hl)⟩
theorem pays {l : Launch} {R : Room} {p : Program} {e : Env} {below : List Frame} {s : State} {sargs : Array Value} {len W : Nat} (x t : Addr) (V : Cell) (cd : Int32) (n : Nat) (f : Nat → Int32) (z : Int32) (htab : tab.before sargs s = true) (hfr : 2 ≤ R.frames) (hlo : W + 25 ≤ R.locals) :
    Back l R p e below s sargs yN len W (fun A₁ a₁ => A₁.cells + 0 ≤ R.cells ∧ A₁.slots + 0 ≤ R.slots ∧ P x t V cd n f z a₁ A₁.U) (fun A₁ _ v₁ B₁ => E n v₁ A₁.U B₁.U ∧ B₁.locs = A₁.locs ++ [] ∧ B₁.cells = A₁.cells + 0 ∧ B₁.slots = A₁.slots + 0) :=
  (law l x t V cd n f z).pays htab hfr (by omega)
end Len
end StrChars
namespace StrChars.Road
open Jvm Sem ClassFile Op Lib Jvm.Stand Jvm.Free Jvm.Free.XT
open Jvm.Lib.Cold (StaticIs)
theorem consq {a : Array Value} {s : State} {c : Jvm.Cond} {L : List Jvm.Cond} (h0 : c.before a s = true) (h : ∀ w ∈ L, w.before a s = true) : ∀ w ∈ c :: L, w.before a s = true := fun w hw => (List.mem_cons.mp hw).elim (fun e => e ▸ h0) (h w)
/-- the words of String.length(), either coding -/
abbrev wordsLen : List Jvm.Cond := [.code Len.yN Len.yB 1 (some .int), .initialized ST, .fieldLink ST 9 ST "value" "[B", .fieldLink ST 38 ST "COMPACT_STRINGS" "Z", .fieldLink ST 15 ST "coder" "B", .code Cdr.yN Cdr.yB 1 (some .byte), .methodLink ST 335 Cdr.yN, .declares Cdr.yN, .selects ST Cdr.yN Cdr.yN, .instanceMethod Cdr.yN]
theorem tabLen_of {a : Array Value} {s : State} (h : ∀ w ∈ wordsLen, w.before a s = true) : Len.tab.before a s = true := by
  have hc : Cdr.tab.before a s = true := unparts (wk h (.code Cdr.yN Cdr.yB 1 (some .byte))) (wks h (.initialized Cdr.yN.cls :: Cdr.site))
  have q := consq hc h
  exact unparts (wk q (.code Len.yN Len.yB 1 (some .int))) (wks q (.initialized Len.yN.cls :: Len.site))
theorem movedLen {Z s : State} {a0 args : Array Value} (hZ : Z.Warmed39 s.vm) (hw : ∀ d ∈ wordsLen, d.before a0 Z = true) : ∀ d ∈ wordsLen, d.before args s = true := fun d hd => by
  have q := hw d hd
  have t : ∀ d ∈ wordsLen, d = .arrayClass .byte ∨ (d.onTables && d.keepsFace) = true := by decide +kernel
  rcases t d hd with rfl | t
  · exact RoadKit.mvA hZ q
  · exact RoadKit.mv hZ q t
/-- the bytes of the chars cs, low before high -/
def wideBytes : List Int32 → List Value
  | [] => []
  | c :: cs => .int (lo8 c) :: .int (hi8 c) :: wideBytes cs
theorem wide_lo (d : Value) : ∀ (cs : List Int32) (j : Nat), j < cs.length → (wideBytes cs).getD (2 * j) d = .int (lo8 (cs.getD j 0))
  | [], j, h => absurd h (Nat.not_lt_zero j)
  | c :: cs, 0, _ => rfl
  | c :: cs, j + 1, h => by
    have q := wide_lo d cs j (by simpa using h)
    rw [show 2 * (j + 1) = 2 * j + 1 + 1 from by omega]
    simpa [wideBytes] using q
theorem wide_hi (d : Value) : ∀ (cs : List Int32) (j : Nat), j < cs.length → (wideBytes cs).getD (2 * j + 1) d = .int (hi8 (cs.getD j 0))
  | [], j, h => absurd h (Nat.not_lt_zero j)
  | c :: cs, 0, _ => rfl
  | c :: cs, j + 1, h => by
    have q := wide_hi d cs j (by simpa using h)
    rw [show 2 * (j + 1) + 1 = 2 * j + 1 + 1 + 1 from by omega]
    simpa [wideBytes] using q
theorem low_at (d : Value) (cs : List Int32) (j : Nat) (h : j < cs.length) : (cs.map fun c => Value.int (lo8 c)).getD j d = .int (lo8 (cs.getD j 0)) := by
  simp [List.getD_eq_getElem?_getD, h]
/-- an array of N2 bytes vs codes the chars cs by the coder cd -/
def CodA (cs : List Int32) (cd N2 : Int32) (vs : List Value) : Prop := (cd = 0 ∧ N2 = Int32.ofNat cs.length ∧ vs = (cs.map fun c => Value.int (lo8 c)) ∧ ∀ c ∈ cs, ¬ 255 < c) ∨ (cd = 1 ∧ N2 = Int32.ofNat (2 * cs.length) ∧ vs = wideBytes cs ∧ ∃ c ∈ cs, 255 < c)
theorem CodA.cod {cs : List Int32} {cd N2 : Int32} {vs : List Value} {V : Cell} (h : CodA cs cd N2 vs) (hn : 2 * cs.length < 2 ^ 31) (hs : V.slots.size = N2.toNatClampNeg) (hv : RoadKit.Has V vs (.int 0)) : Cod cd cs.length (fun j => cs.getD j 0) V := by
  rcases h with ⟨rfl, rfl, rfl, h⟩ | ⟨rfl, rfl, rfl, c, hc, hw⟩
  · rw [n32 (by omega)] at hs
    exact Or.inl ⟨rfl, hs, fun j hj => ⟨by rw [hv j (by omega), low_at _ _ _ hj], by
      have e : cs.getD j 0 = cs[j] := by simp [List.getD_eq_getElem?_getD, hj]
      show ¬ 255 < cs.getD j 0
      rw [e]; exact h _ (List.getElem_mem _)⟩⟩
  · rw [n32 (by omega)] at hs
    obtain ⟨j, hj, rfl⟩ := List.getElem_of_mem hc
    exact Or.inr ⟨rfl, hs, fun j hj => ⟨by rw [hv _ (by omega), wide_lo _ _ _ hj], by rw [hv _ (by omega), wide_hi _ _ _ hj]⟩, j, hj, by
      have e : cs.getD j 0 = cs[j] := by simp [List.getD_eq_getElem?_getD, hj]
      show 255 < cs.getD j 0
      rw [e]; exact hw⟩
/-- an object of exactly java/lang/String, its two fields found: as the laws ask it -/
theorem strObj {Z U : State} {a0 : Array Value} {kI : Nat} (wi : (Jvm.Cond.instantiable ST kI).before a0 Z = true) (al : Z.vm.Alike U.vm) {x : Addr} {v0 c0 : Value} (E : RoadKit.Exa Z U.heap x ST) (V : RoadKit.Fld Z U.heap x ST "value" "[B" v0) (C : RoadKit.Fld Z U.heap x ST "coder" "B" c0) :
    ∃ (D : Cell) (fV fC : Field), Blank ST x D U ∧ Found ST "value" "[B" fV U ∧ Found ST "coder" "B" fC U ∧ D.slots[fV.slot]? = some v0 ∧ D.slots[fC.slot]? = some c0 ∧ RoadKit.slotOf Z ST "value" "[B" = fV.slot ∧ RoadKit.slotOf Z ST "coder" "B" = fC.slot := by
  obtain ⟨D, cfV, kV, iV, fV, hD, gV, stV, knV, obV, asV, slV⟩ := V
  obtain ⟨D', cfC, kC, iC, fC, hD', gC, stC, -, -, asC, slC⟩ := C
  cases hD.symm.trans hD'
  obtain ⟨D2, kD, e1, e2, e3, e4, e5⟩ := E
  cases hD.symm.trans e1
  obtain ⟨c2, k2, i1, i2, i3, -⟩ := Cond.instantiable_spec wi
  cases e2.symm.trans i1
  cases e3.symm.trans i2
  obtain ⟨kU, u1, u2⟩ := al.2.2 _ _ e3
  exact ⟨D, fV, fC, ⟨hD, ⟨knV, fun q hq => by rw [hq] at obV; cases obV⟩, by rw [al.findClass]; exact e2, kU, u1, by rw [u2]; exact i3, by rw [u2]; exact e5 i3⟩, ⟨SBG.found_only al ⟨cfV, kV, iV, gV⟩, stV⟩, ⟨SBG.found_only al ⟨cfC, kC, iC, gC⟩, stC⟩, slV, slC, by simp [RoadKit.slotOf, gV], by simp [RoadKit.slotOf, gC]⟩
theorem sta_is {Z U : State} (al : Z.vm.Alike U.vm) {C n d : String} {v : Value} (S : RoadKit.Sta Z U.heap C n d v) : StaticIs U C n d v := by
  obtain ⟨cfS, iS, kS, fS, st, cS, t1, t2, t3, t4, t5, t6, t7⟩ := S
  exact StaticIs.there (s := { Z with heap := U.heap }) ⟨cfS, iS, kS, fS, st, cS, t1, t2, t3, t4, t5, (fun q => by rw [q] at t6; cases t6), t7⟩ al rfl
/-- **length() OF SUCH A STRING** -/
theorem lenW {p : Program} {l : Launch} {e : Env} {R : Room} {s : State} {args : Array Value} {below : List Frame} {len W : Nat} {Z : State} {a0 : Array Value} {h : Heap} (hZ : Z.Warmed39 s.vm) (hw : ∀ d ∈ wordsLen, d.before a0 Z = true) {kI : Nat} (wi : (Jvm.Cond.instantiable ST kI).before a0 Z = true)
    {x t : Addr} {kb : ClassId} {cs : List Int32} {cd N2 z : Int32} {vs : List Value} (E : RoadKit.Exa Z h x ST) (V : RoadKit.Fld Z h x ST "value" "[B" (.ref t)) (C : RoadKit.Fld Z h x ST "coder" "B" (.int cd)) (K : RoadKit.Arv Z h t kb .byte N2 vs (.int 0)) (hc : CodA cs cd N2 vs) (hb : ∀ c ∈ cs, ¬ c < 0 ∧ ¬ (65535 : Int32) < c)
    (S : RoadKit.Sta Z h ST "COMPACT_STRINGS" "Z" (.int z)) (hz : ¬ z = 0) (l2 : cs.length ≤ 4000) (hfr : 2 ≤ R.frames) (hlo : W + 25 ≤ R.locals) :
    Back l R p e below s args (⟨"java/lang/String", "length", "()I"⟩ : MethodName) len W (fun P a => a = #[.ref x] ∧ P.U.heap = h ∧ P.cells + 0 ≤ R.cells ∧ P.slots + 0 ≤ R.slots)
      (fun P _ v B => ∃ L, (v = some (.int (Int32.ofNat cs.length)) ∧ L = [] ∧ B.U.heap = h) ∧ B.locs = P.locs ++ L ∧ B.cells = P.cells + 0 ∧ B.slots = P.slots + 0) := by
  obtain ⟨A, K1, K2, K3, K4, K5, K6⟩ := K
  have hcod := hc.cod (by omega) K3 K5
  intro m meth c P g ig mk a X hg hsize hdg hW hn hp'
  obtain ⟨rfl, rfl, r1, r2⟩ := hp'
  have al : Z.vm.Alike P.U.vm := hZ.alike.trans X.warmed.alike
  obtain ⟨D, fV, fC, hB, F1, F2, g1, g2, -, -⟩ := strObj wi al E V C
  have hx : Txt x t A cd cs.length (fun j => cs.getD j 0) P.U := ⟨⟨_, hB.2.2.1, D, hB.1, rfl, by cases q : D.vm <;> first | rfl | exact absurd q (hB.2.1.2 _)⟩, Has.of hB F1 g1, Has.of hB F2 g2, ⟨K1.1, State.isArrayOf_alike al K1.2.1, K1.2.2, by rcases hcod with ⟨-, q, -⟩ | ⟨-, q, -⟩ <;> omega⟩, hcod, fun j hj => by
    have e : cs.getD j 0 = cs[j] := by simp [List.getD_eq_getElem?_getD, hj]
    show ¬ cs.getD j 0 < 0 ∧ ¬ 65535 < cs.getD j 0
    rw [e]; exact hb _ (List.getElem_mem _)⟩
  obtain ⟨v, B, X', ⟨⟨hv, hh⟩, hl, hk, hs⟩, st⟩ := Len.pays x t A cd cs.length (fun j => cs.getD j 0) z (tabLen_of (movedLen hZ hw)) hfr hlo m meth c P g ig mk _ X hg hsize hdg hW hn ⟨r1, r2, rfl, hx, sta_is al S, hz⟩
  exact ⟨v, B, X', ⟨[], ⟨hv, rfl, hh⟩, hl, hk, hs⟩, st⟩
end StrChars.Road
namespace StrChars
open Jvm Sem ClassFile Op Lib Jvm.Stand Jvm.Free.XT Jvm.Free.ALB Jvm.Free.JM Jvm.Free
open Jvm.Lib.Cold (StaticIs)
namespace Emp
def yN : MethodName := ⟨"java/lang/String", "isEmpty", "()Z"⟩
abbrev yB : ByteArray := jdk_42_method_55_code
theorem d0 : decode yB 0 = .ok (.aload_n 0, 1) := by decide +kernel
theorem d1 : decode yB 1 = .ok (.getfield 9, 3) := by decide +kernel
theorem d4 : decode yB 4 = .ok (.arraylength, 1) := by decide +kernel
theorem d5 : decode yB 5 = .ok (.ifCond (.ne) 7, 3) := by decide +kernel
theorem d8 : decode yB 8 = .ok (.iconst 1, 1) := by decide +kernel
theorem d9 : decode yB 9 = .ok (.goto 4, 3) := by decide +kernel
theorem d12 : decode yB 12 = .ok (.iconst 0, 1) := by decide +kernel
theorem d13 : decode yB 13 = .ok (.ireturn, 1) := by decide +kernel
def site : List Cond := [.fieldLink "java/lang/String" 9 "java/lang/String" "value" "[B"]
def tab : Cond := tabOf yN yB 1 (some .boolean) site
def P (x t : Addr) (V : Cell) (cd : Int32) (n : Nat) (f : Nat → Int32) (args : Array Value) (s : State) : Prop := args = #[.ref x] ∧ Txt x t V cd n f s
def E (n : Nat) (r : Option Value) (s u : State) : Prop := XT.PureE (some (.int (if n = 0 then 1 else 0))) r s u
/-- isEmpty() of a String of n chars -/
theorem law (l : Launch) (x t : Addr) (V : Cell) (cd : Int32) (n : Nat) (f : Nat → Int32) : Law l yN 1 0 0 0 yB 1 (some .boolean) site (P x t V cd n f) (E n) [] 0 0 := by
  refine Law.of_walk (plainFor_of_name (by decide +kernel)) (by decide +kernel) (by decide +kernel) (by decide) (fun _ _ h => by rw [h.1]; rfl) (fun _ U U' hal hh h => ⟨h.1, h.2.mv hal hh⟩) (fun r U U' V V' h1 hal h2 h => XT.PureE.mv r U U' V V' h1 hal h2 h) ?_
  intro p e s m args below meth c s₁ X0 hexec hbytes hml hret hlk hnm hown hh0 W hP
  obtain ⟨rfl, hx⟩ := hP
  have v31 := hx.2.2.2.1.2.2.2
  have c1 : Steps p.tables e below (s₁.setTop (entryFrame m #[.ref x] 1)) (s₁.setTop (mkF m 1 #[.val (.ref x)] [.ref x])) := Steps.trans (entry rfl) (by
    show Steps p.tables e below (s₁.setTop (mkF m 0 #[.val (.ref x)] [])) _
    refine XS.aloadN X0.here hexec rfl (hb hbytes d0) rfl rfl ?_
    exact Steps.refl _)
  obtain ⟨T2, X2, q2, st2⟩ := X0.hget hexec hown (wk W (.fieldLink "java/lang/String" 9 "java/lang/String" "value" "[B")) (hx.mv X0.warmed.alike hh0).2.1 (g := (mkF m 1 #[.val (.ref x)] [.ref x])) rfl (rest := []) rfl (hb hbytes d1)
  have hh2 := q2.trans hh0
  have hx2 := hx.mv X2.warmed.alike hh2
  have c3 : Steps p.tables e below (s₁.setTop (entryFrame m #[.ref x] 1)) (T2.setTop (mkF m 5 #[.val (.ref x)] [.int (Int32.ofNat V.slots.size)])) := (c1.trans (st2 _ (Steps.refl _))).trans (by
    refine X2.alen hexec hx2.2.2.2.1 rfl rfl (hb hbytes d4) ?_
    exact Steps.refl _)
  have hz : V.slots.size = 0 ↔ n = 0 := by
    rcases hx.2.2.2.2.1 with ⟨-, q, -⟩ | ⟨-, q, -⟩ <;> omega
  by_cases h0 : n = 0
  · have c4 : Steps p.tables e below (s₁.setTop (entryFrame m #[.ref x] 1)) (T2.setTop (mkF m 13 #[.val (.ref x)] [.int 1])) := c3.trans (by
      refine XS.ifNo X2.here hexec rfl (hb hbytes d5) rfl (i0_ne_f (by rw [hz.mpr h0]; rfl)) ?_
      refine iconstV X2.here hexec rfl 1 (hb hbytes d8) (by decide) ?_
      refine XS.goto X2.here hexec rfl (pc0 := 9) rfl (hb hbytes d9) (by decide) rfl ?_
      exact Steps.refl _)
    exact ⟨T2, some (.int 1), _, _, _, X2, rfl, rfl, rfl, (fun h => by cases h), ⟨by rw [if_pos h0], hh2⟩, fun fs hl => c4.trans (X2.ireturnOut hexec hret rfl (Or.inr (Or.inl rfl)) (hb hbytes d13) hl)⟩
  · have c4 : Steps p.tables e below (s₁.setTop (entryFrame m #[.ref x] 1)) (T2.setTop (mkF m 13 #[.val (.ref x)] [.int 0])) := c3.trans (by
      refine XS.ifYes X2.here hexec rfl (pc0 := 5) rfl (hb hbytes d5) rfl (i0_ne_t (nz32 v31 (by omega))) (by decide) rfl ?_
      refine iconstV X2.here hexec rfl 0 (hb hbytes d12) (by decide) ?_
      exact Steps.refl _)
    exact ⟨T2, some (.int 0), _, _, _, X2, rfl, rfl, rfl, (fun h => by cases h), ⟨by rw [if_neg h0], hh2⟩, fun fs hl => c4.trans (X2.ireturnOut hexec hret rfl (Or.inr (Or.inl rfl)) (hb hbytes d13) hl)⟩
theorem pays {l : Launch} {R : Room} {p : Program} {e : Env} {below : List Frame} {s : State} {sargs : Array Value} {len W : Nat} (x t : Addr) (V : Cell) (cd : Int32) (n : Nat) (f : Nat → Int32) (htab : tab.before sargs s = true) (hfr : 1 ≤ R.frames) (hlo : W + 12 ≤ R.locals) :
    Back l R p e below s sargs yN len W (fun A₁ a₁ => A₁.cells + 0 ≤ R.cells ∧ A₁.slots + 0 ≤ R.slots ∧ P x t V cd n f a₁ A₁.U) (fun A₁ _ v₁ B₁ => E n v₁ A₁.U B₁.U ∧ B₁.locs = A₁.locs ++ [] ∧ B₁.cells = A₁.cells + 0 ∧ B₁.slots = A₁.slots + 0) :=
  (law l x t V cd n f).pays htab hfr (by omega)
end Emp
end StrChars
namespace StrChars.Road
open Jvm Sem ClassFile Op Lib Jvm.Stand Jvm.Free Jvm.Free.XT
open Jvm.Lib.Cold (StaticIs)
/-- the words of String.isEmpty() -/
abbrev wordsEmp : List Jvm.Cond := [.code Emp.yN Emp.yB 1 (some .boolean), .initialized ST, .fieldLink ST 9 ST "value" "[B"]
theorem tabEmp_of {a : Array Value} {s : State} (h : ∀ w ∈ wordsEmp, w.before a s = true) : Emp.tab.before a s = true := unparts (wk h (.code Emp.yN Emp.yB 1 (some .boolean))) (wks h (.initialized Emp.yN.cls :: Emp.site))
theorem movedEmp {Z s : State} {a0 args : Array Value} (hZ : Z.Warmed39 s.vm) (hw : ∀ d ∈ wordsEmp, d.before a0 Z = true) : ∀ d ∈ wordsEmp, d.before args s = true := fun d hd => by
  have t : ∀ d ∈ wordsEmp, (d.onTables && d.keepsFace) = true := by decide +kernel
  exact RoadKit.mv hZ (hw d hd) (t d hd)
/-- the road's facts of a String, as the laws ask it -/
theorem txt_of {Z U : State} {a0 : Array Value} {kI : Nat} (wi : (Jvm.Cond.instantiable ST kI).before a0 Z = true) (al : Z.vm.Alike U.vm) {x t : Addr} {kb : ClassId} {cs : List Int32} {cd N2 : Int32} {vs : List Value} (E : RoadKit.Exa Z U.heap x ST) (V : RoadKit.Fld Z U.heap x ST "value" "[B" (.ref t)) (C : RoadKit.Fld Z U.heap x ST "coder" "B" (.int cd)) (K : RoadKit.Arv Z U.heap t kb .byte N2 vs (.int 0)) (hc : CodA cs cd N2 vs) (hb : ∀ c ∈ cs, ¬ c < 0 ∧ ¬ (65535 : Int32) < c) (l2 : cs.length ≤ 4000) :
    ∃ A, Txt x t A cd cs.length (fun j => cs.getD j 0) U := by
  obtain ⟨A, K1, K2, K3, K4, K5, K6⟩ := K
  have hcod := hc.cod (by omega) K3 K5
  obtain ⟨D, fV, fC, hB, F1, F2, g1, g2, -, -⟩ := strObj wi al E V C
  exact ⟨A, ⟨_, hB.2.2.1, D, hB.1, rfl, by cases q : D.vm <;> first | rfl | exact absurd q (hB.2.1.2 _)⟩, Has.of hB F1 g1, Has.of hB F2 g2, ⟨K1.1, State.isArrayOf_alike al K1.2.1, K1.2.2, by rcases hcod with ⟨-, q, -⟩ | ⟨-, q, -⟩ <;> omega⟩, hcod, fun j hj => by
    have e : cs.getD j 0 = cs[j] := by simp [List.getD_eq_getElem?_getD, hj]
    show ¬ cs.getD j 0 < 0 ∧ ¬ 65535 < cs.getD j 0
    rw [e]; exact hb _ (List.getElem_mem _)⟩
/-- **isEmpty() OF SUCH A STRING** -/
theorem empW {p : Program} {l : Launch} {e : Env} {R : Room} {s : State} {args : Array Value} {below : List Frame} {len W : Nat} {Z : State} {a0 : Array Value} {h : Heap} (hZ : Z.Warmed39 s.vm) (hw : ∀ d ∈ wordsEmp, d.before a0 Z = true) {kI : Nat} (wi : (Jvm.Cond.instantiable ST kI).before a0 Z = true)
    {x t : Addr} {kb : ClassId} {cs : List Int32} {cd N2 : Int32} {vs : List Value} (E : RoadKit.Exa Z h x ST) (V : RoadKit.Fld Z h x ST "value" "[B" (.ref t)) (C : RoadKit.Fld Z h x ST "coder" "B" (.int cd)) (K : RoadKit.Arv Z h t kb .byte N2 vs (.int 0)) (hc : CodA cs cd N2 vs) (hb : ∀ c ∈ cs, ¬ c < 0 ∧ ¬ (65535 : Int32) < c) (l2 : cs.length ≤ 4000) (hfr : 1 ≤ R.frames) (hlo : W + 12 ≤ R.locals) :
    Back l R p e below s args (⟨"java/lang/String", "isEmpty", "()Z"⟩ : MethodName) len W (fun P a => a = #[.ref x] ∧ P.U.heap = h ∧ P.cells + 0 ≤ R.cells ∧ P.slots + 0 ≤ R.slots)
      (fun P _ v B => ∃ L, (v = some (.int (if cs.length = 0 then 1 else 0)) ∧ L = [] ∧ B.U.heap = h) ∧ B.locs = P.locs ++ L ∧ B.cells = P.cells + 0 ∧ B.slots = P.slots + 0) := by
  intro m meth c P g ig mk a X hg hsize hdg hW hn hp'
  obtain ⟨rfl, rfl, r1, r2⟩ := hp'
  have al : Z.vm.Alike P.U.vm := hZ.alike.trans X.warmed.alike
  obtain ⟨A, hx⟩ := txt_of wi al E V C K hc hb l2
  obtain ⟨v, B, X', ⟨⟨hv, hh⟩, hl, hk, hs⟩, st⟩ := Emp.pays x t A cd cs.length (fun j => cs.getD j 0) (tabEmp_of (movedEmp hZ hw)) hfr hlo m meth c P g ig mk _ X hg hsize hdg hW hn ⟨r1, r2, rfl, hx⟩
  exact ⟨v, B, X', ⟨[], ⟨hv, rfl, hh⟩, hl, hk, hs⟩, st⟩
end StrChars.Road
namespace StrChars.Road
open Jvm Sem ClassFile Op Lib Jvm.Stand Jvm.Free Jvm.Free.XT
open Jvm.Lib.Cold (StaticIs)
/-- what backV says of its String, as the contracts of this text ask it: cs's low bytes, coder 0 -/
theorem codOf {cs : List Int32} {n : Nat} (hn : cs.length = n) (hb : ∀ c ∈ cs, ¬ 255 < c) : CodA cs 0 (Int32.ofNat n) ((cs.map lo8).map Value.int) := Or.inl ⟨rfl, by rw [hn], by simp [List.map_map, Function.comp_def], hb⟩
end StrChars.Road
end Jvm.Pilot.@@N@@

namespace Jvm.Pilot.@@N@@
open Jvm Jvm.ClassFile Sem Op Lib Jvm.Free Jvm.Stand Jvm.LawKit Jvm.RoadKit Bundle
theorem ow {a0 : Array Value} {Z : State} (hw : ∀ d ∈ tables_1, d.before a0 Z = true) (i : Nat) {d : Jvm.Cond} (q : tables_1[i]? = some d) : d.before a0 Z = true := hw _ (List.mem_of_getElem? q)
theorem own_acEt {x y : Value} (h : x = y) : Jvm.Free.XT.acmp .eq x y = true := by simp [Jvm.Free.XT.acmp, h]
theorem own_acEf {x y : Value} (h : ¬ x = y) : Jvm.Free.XT.acmp .eq x y = false := by simp [Jvm.Free.XT.acmp, h]
theorem own_acNt {x y : Value} (h : ¬ x = y) : Jvm.Free.XT.acmp .ne x y = true := by simp [Jvm.Free.XT.acmp, h]
theorem own_acNf {x y : Value} (h : x = y) : Jvm.Free.XT.acmp .ne x y = false := by simp [Jvm.Free.XT.acmp, h]
theorem own_rem (x y : Int32) : x - (x / y) * y = x % y := by
  apply Int32.toInt_inj.mp
  have h1 := Int32.le_toInt (x % y)
  have h2 := Int32.toInt_lt (x % y)
  have e1 : (x - (x / y) * y).toInt = (x.toInt - (x / y).toInt * y.toInt).bmod (2 ^ 32) := by rw [Int32.toInt_sub, Int32.toInt_mul, Int.sub_bmod_bmod]
  rw [e1, Int32.toInt_div]
  have e2 : (x.toInt - (x.toInt.tdiv y.toInt).bmod (2 ^ 32) * y.toInt).bmod (2 ^ 32) = (x.toInt.tmod y.toInt).bmod (2 ^ 32) := by
    rw [← Int.sub_bmod_bmod, Int.bmod_mul_bmod, Int.sub_bmod_bmod, Int.tmod_def, Int.mul_comm]
  rw [e2, ← Int32.toInt_mod]
  exact Int.bmod_eq_of_le_mul_two (by omega) (by omega)
theorem own_cat {x : Value} (h : x.isRef = true) : x.category = 1 := by rcases ref_cases h with rfl | ⟨a, rfl⟩ <;> rfl
theorem own_nar {x : Value} {C : String} (h : x.isRef = true) : narrow (.object C) x = x := by rcases ref_cases h with rfl | ⟨a, rfl⟩ <;> rfl
theorem own_fit {x : Value} {C : String} (h : x.isRef = true) : fits (.object C) x = true := by rcases ref_cases h with rfl | ⟨a, rfl⟩ <;> rfl
theorem own_pure {Z : State} {h : Heap} {P : Option Value → Prop} : ∀ (v : Option Value) (h' : Heap) (L : List Loc), (Fr Z.heap.size L ∧ Ext Z.heap h' ∧ P v ∧ h = h') → Fr Z.heap.size L ∧ Keep h h' [] := fun v h' L q => ⟨q.1, q.2.2.2 ▸ Keep.refl _ _⟩
section OwnLayer
variable {p : Program} {l : Launch} {e : Env} {R : Room} {s : State} {m : MethodId} {args : Array Value} {below : List Frame} {meth : Method} {c : Code} {Z : State} {EL : List (String × Nat)} {a0 : Array Value} {T : State} {h : Heap} {k n : Nat} {sf : List Addr} {w : Bool}
/-- the tables since the start: wide (w): literals may have been interned; narrow: the Stand's own start -/
def own_rel : Bool → State → Vm → Nat → Prop
  | true, s, v0, k => s.Since v0 k
  | false, s, v0, _ => v0 = s.vm
def own_end : Bool → State → Outcome → State → List Loc → Nat → Nat → Prop
  | true, s, o, t, L, k, n => ReturnedEndW s o t L k n
  | false, s, o, t, L, k, n => FrameEnd s o t L k n
theorem own_alike {vm : Vm} {k0 : Nat} (r : own_rel w s vm k0) : s.vm.Alike vm := by
  cases w
  · cases r; exact Vm.Alike.refl _
  · exact r.1.alike
theorem own_found {vm : Vm} {k0 : Nat} {own : String} {c0 : ClassId} (r : own_rel w s vm k0) (q : s.vm.findClass own = some c0) : (s.setVm vm).vm.findClass own = some c0 := by
  show vm.findClass own = _
  rw [(own_alike r).findClass]; exact q
/-- where a walk stands: the Stand over the start with the tables at hand, the heap, nothing old written, the constants held, sf: cells that no constant stands for -/
def Wk (p : Program) (l : Launch) (e : Env) (R : Room) (s : State) (m : MethodId) (args : Array Value) (below : List Frame) (meth : Method) (c : Code) (Z : State) (EL : List (String × Nat)) (a0 : Array Value) (w : Bool) (T : State) (h : Heap) (k n : Nat) (sf : List Addr) : Prop :=
  EW Z a0 EL ∧ ∃ (vm0 : Vm) (locs : List Loc) (k0 : Nat), Stand p l e R (s.setVm vm0) m args below meth c T locs k n ∧ T.heap = h ∧ own_rel w s vm0 k0 ∧ k0 ≤ h.size ∧ Z.Warmed39 vm0 ∧ Fr Z.heap.size locs ∧ Ext Z.heap h ∧ CHr Z EL s.vm s.heap vm0 h ∧ ∀ x ∈ sf, x < h.size ∧ Safe Z EL vm0 h x
theorem Wk.here (H : Wk p l e R s m args below meth c Z EL a0 w T h k n sf) : At T m c below := by obtain ⟨-, _, _, _, X, -⟩ := H; exact X.here
theorem Wk.old (H : Wk p l e R s m args below meth c Z EL a0 w T h k n sf) : Ext Z.heap h := by obtain ⟨-, _, _, _, -, -, -, -, -, -, O, -⟩ := H; exact O
theorem Wk.more (H : Wk p l e R s m args below meth c Z EL a0 w T h k n sf) {k' n' : Nat} (hk : k ≤ k') (hn : n ≤ n') : Wk p l e R s m args below meth c Z EL a0 w T h k' n' sf := by
  obtain ⟨q, vm0, locs, k0, X, r⟩ := H; exact ⟨q, vm0, locs, k0, X.more hk hn, r⟩
theorem Wk.less (H : Wk p l e R s m args below meth c Z EL a0 w T h k n sf) {sf' : List Addr} (q : ∀ x ∈ sf', x ∈ sf) : Wk p l e R s m args below meth c Z EL a0 w T h k n sf' := by
  obtain ⟨q0, vm0, locs, k0, X, eT, r, hk, hZ, N, O, C, S⟩ := H; exact ⟨q0, vm0, locs, k0, X, eT, r, hk, hZ, N, O, C, fun x hx => S x (q x hx)⟩
def Go (p : Program) (e : Env) (below : List Frame) (Φ : State → Prop) (T : State) (g : JFrame) : Prop := ∃ U, Steps p.tables e below (T.setTop g) U ∧ Φ U
variable {Φ : State → Prop}
theorem Go.of {T' : State} {g g' : JFrame} (st : ∀ t, Steps p.tables e below (T'.setTop g') t → Steps p.tables e below (T.setTop g) t) (K : Go p e below Φ T' g') : Go p e below Φ T g := by
  obtain ⟨U, a, b⟩ := K; exact ⟨U, st U a, b⟩
theorem Go.by {T' : State} {g g' : JFrame} (st : Steps p.tables e below (T.setTop g) (T'.setTop g')) (K : Go p e below Φ T' g') : Go p e below Φ T g := by
  obtain ⟨U, a, b⟩ := K; exact ⟨U, st.trans a, b⟩
theorem Go.eq {g g' : JFrame} (q : g = g') (K : Go p e below Φ T g') : Go p e below Φ T g := q ▸ K
def own_fin (Z : State) (EL : List (String × Nat)) (w : Bool) (s : State) (below : List Frame) (Q : Option Value → Heap → Prop) (kc kn : Nat) (gs : Option Value → List Addr) (U : State) : Prop :=
  ∃ o, U.status = .running ∧ Ended U below o ∧ ∃ v L, o = .returned v ∧ (Fr Z.heap.size L ∧ Ext Z.heap U.heap ∧ (∀ x ∈ gs v, x < U.heap.size ∧ Safe Z EL U.vm U.heap x) ∧ Q v U.heap) ∧ CHr Z EL s.vm s.heap U.vm U.heap ∧ own_end w s o U L kc kn
/-- a method's contract -/
def Ct (l : Launch) (Z : State) (EL : List (String × Nat)) (a0 : Array Value) (w : Bool) (y : MethodName) (bytes : ByteArray) (maxL : Nat) (ret : Option FieldType) (ws : List Jvm.Cond) (rm : Room) (as' : Array Value) (h0 : Heap) (sf : List Addr) (gs : Option Value → List Addr) (Q : Option Value → Heap → Prop) : Prop :=
  MetFree l y (head1 (Jvm.Cond.code y bytes maxL ret :: ws) rm) (fun a U => a = as' ∧ Z.Warmed39 U.vm ∧ U.heap = h0 ∧ CHv Z EL U.vm h0 ∧ ∀ x ∈ sf, x < h0.size ∧ Safe Z EL U.vm h0 x) (fun _ _ _ _ _ => True)
    (fun _ U o U' => ∃ v L, o = .returned v ∧ (Fr Z.heap.size L ∧ Ext Z.heap U'.heap ∧ (∀ x ∈ gs v, x < U'.heap.size ∧ Safe Z EL U'.vm U'.heap x) ∧ Q v U'.heap) ∧ CHr Z EL U.vm U.heap U'.vm U'.heap ∧ own_end w U o U' L rm.cells rm.slots)
theorem own_enter {y : MethodName} {bytes : ByteArray} {maxL : Nat} {ret : Option FieldType} {ws : List Jvm.Cond} {rm : Room} {as' : Array Value} {h0 : Heap} {gs : Option Value → List Addr} {Q : Option Value → Heap → Prop} (hp : plainFor y = true) (hE : EW Z a0 EL) (O : Ext Z.heap h0)
    (B : ∀ (p : Program) (e : Env) (s : State) (m : MethodId) (below : List Frame) (meth : Method) (c : Code) (s₁ : State), p.tables.exec = Jvm.exec → c.code = bytes → c.maxLocals = maxL → s.vm.findClass y.cls = some m.cls → meth.name = y.name → meth.sig.returnType = ret → meth.locks = false →
      Wk p l e rm s m as' below meth c Z EL a0 w s₁ h0 0 0 sf → Go p e below (own_fin Z EL w s below Q rm.cells rm.slots gs) s₁ (entryFrame m as' maxL)) :
    Ct l Z EL a0 w y bytes maxL ret ws rm as' h0 sf gs Q := by
  refine MetFree.of_bodySF hp hisR ?_
  intro p e s m args below meth c s₁ Bd hml0 hP hK
  obtain ⟨rfl, hZ, hh, hC, hS⟩ := hP
  have X0 : Stand p l e rm s m args below meth c s₁ [] 0 0 := Stand.of_body Bd
  have e0 : s₁.heap = h0 := by rw [← hh, Bd.state]; rfl
  obtain ⟨U, st, o, r1, r2, v, L, rfl, r3, r4, r5⟩ := B p e s m below meth c s₁ Bd.exec Bd.bytes hml0 (findClass_of_methodNamed Bd.named) (name_of_methodNamed Bd.named Bd.method).1 Bd.returns Bd.notSynchronized
    ⟨hE, s.vm, [], 0, X0, e0, by cases w; exact rfl; exact (State.WarmedH.refl s).since _, Nat.zero_le _, hZ, Fr.nil _, O, by rw [hh]; exact CHr.refl hC, hS⟩
  exact ⟨U, _, st, r1, r2, v, L, rfl, r3, r4, r5⟩
def own_sw (Z : State) (EL : List (String × Nat)) (sf : List Addr) (h : Heap) (a : Addr) : Prop := a ∈ sf ∨ (∃ C, Exa Z h a C ∧ C ≠ "java/lang/String" ∧ C ≠ "[B") ∨ (∃ cl ty, Arr Z h a cl ty ∧ ty ≠ .byte)
theorem own_sw.safe {vm0 : Vm} {a : Addr} (q : own_sw Z EL sf h a) (hal : Z.vm.Alike vm0) (S : ∀ x ∈ sf, x < h.size ∧ Safe Z EL vm0 h x) : Safe Z EL vm0 h a := by
  rcases q with q | ⟨C, E, h1, h2⟩ | ⟨cl, ty, A, ht⟩
  · exact (S a q).2
  · exact Safe.exa hal E h1 h2
  · exact Safe.arr hal A ht
theorem own_mem {a : Addr} (q : a ∈ sf) : own_sw Z EL sf h a := Or.inl q
theorem own_exa {a : Addr} {C : String} (E : Exa Z h a C) (h1 : C ≠ "java/lang/String" := by decide) (h2 : C ≠ "[B" := by decide) : own_sw Z EL sf h a := Or.inr (Or.inl ⟨C, E, h1, h2⟩)
theorem own_arr {a : Addr} {k0 : ClassId} {ty : FieldType} {z : Int32} {vs : List Value} {d : Value} (V : Arv Z h a k0 ty z vs d) (q : ty ≠ .byte := by decide) : own_sw Z EL sf h a := by
  obtain ⟨cl, A, -⟩ := V; exact Or.inr (Or.inr ⟨cl, ty, A, q⟩)
theorem own_wrote {vm0 : Vm} {locs : List Loc} {k0 : Nat} {T' : State} {h' : Heap} {a : Addr} {sl : Nat} {v : Value} (hE : EW Z a0 EL) (X' : Stand p l e R (s.setVm vm0) m args below meth c T' (locs ++ [⟨a, sl⟩]) k n) (e' : T'.heap = h') (W : Wr h h' a sl v) (r : own_rel w s vm0 k0) (hk : k0 ≤ h.size) (hZ : Z.Warmed39 vm0) (N : Fr Z.heap.size locs) (O : Ext Z.heap h) (C : CHr Z EL s.vm s.heap vm0 h) (S : ∀ x ∈ sf, x < h.size ∧ Safe Z EL vm0 h x) (ha : Z.heap.size ≤ a) (hs : own_sw Z EL sf h a) :
    Wk p l e R s m args below meth c Z EL a0 w T' h' k n sf := by
  have sa := hs.safe hZ.alike S
  have sz := W.size
  exact ⟨hE, vm0, _, k0, X', e', r, by rw [sz]; exact hk, hZ, Fr.snoc X' N ha, (Old.wr ⟨rfl, O⟩ W ha).2, C.trans (CHr.wr W sa C.1), fun x hx => ⟨by rw [sz]; exact (S x hx).1, Safe.wr W sa C.1 (S x hx).2⟩⟩
theorem own_irem (H : Wk p l e R s m args below meth c Z EL a0 w T h k n sf) (hx : p.tables.exec = Jvm.exec) {g : JFrame} (hg : g.method = m) {x y : Int32} {rest : List Value} (hd : decode c.code g.pc = .ok (.irem, 1)) (hs : g.stack = .int y :: .int x :: rest) (hy : y ≠ 0)
    (K : Go p e below Φ T { g with pc := g.pc + 1, stack := .int (x % y) :: rest }) : Go p e below Φ T g := by
  rw [← own_rem] at K
  exact Go.of (fun _ => XS.irem H.here hx hg hd hs hy) K
theorem own_getF (H : Wk p l e R s m args below meth c Z EL a0 w T h k n sf) (hx : p.tables.exec = Jvm.exec) {own R0 O nn d host : String} {index : Nat} (hown : s.vm.findClass own = some m.cls) (wd : (Cond.fieldLink own index R0 nn d).before a0 Z = true ∨ (Cond.fieldLinkNest own index R0 nn d host).before a0 Z = true) (via : Via Z R0 O nn d) {a : Addr} {v : Value} (F : Fld Z h a O nn d v) {g : JFrame} (hg : g.method = m) {rest : List Value} (hs : g.stack = .ref a :: rest) (hd : decode c.code g.pc = .ok (.getfield index, 3))
    (K : ∀ T', Wk p l e R s m args below meth c Z EL a0 w T' h k n sf → Go p e below Φ T' { g with pc := g.pc + 3, stack := v :: rest }) : Go p e below Φ T g := by
  obtain ⟨hE, vm0, locs, k0, X, eT, r, hk, hZ, N, O, C, S⟩ := H
  obtain ⟨T', X', e', st⟩ := getF X hx hZ (own_found r hown) wd via eT F hg hs hd
  exact Go.of st (K T' ⟨hE, vm0, locs, k0, X', e', r, hk, hZ, N, O, C, S⟩)
theorem own_getS (H : Wk p l e R s m args below meth c Z EL a0 w T h k n sf) (hx : p.tables.exec = Jvm.exec) {own R0 O nn d host : String} {index : Nat} (hown : s.vm.findClass own = some m.cls) (wd : (Cond.fieldLink own index R0 nn d).before a0 Z = true ∨ (Cond.fieldLinkNest own index R0 nn d host).before a0 Z = true) (via : Via Z R0 O nn d) {v : Value} (F : Sta Z Z.heap O nn d v) {g : JFrame} (hg : g.method = m) (hd : decode c.code g.pc = .ok (.getstatic index, 3))
    (K : ∀ T', Wk p l e R s m args below meth c Z EL a0 w T' h k n sf → Go p e below Φ T' { g with pc := g.pc + 3, stack := v :: g.stack }) : Go p e below Φ T g := by
  obtain ⟨hE, vm0, locs, k0, X, eT, r, hk, hZ, N, O, C, S⟩ := H
  obtain ⟨T', X', e', st⟩ := getS2 X hx hZ (own_found r hown) wd via eT (F.ext O) hg hd
  exact Go.of st (K T' ⟨hE, vm0, locs, k0, X', e', r, hk, hZ, N, O, C, S⟩)
theorem own_putF (H : Wk p l e R s m args below meth c Z EL a0 w T h k n sf) (hx : p.tables.exec = Jvm.exec) {own R0 O nn d host C : String} {index kk : Nat} {ty : FieldType} (hown : s.vm.findClass own = some m.cls) (wd : (Cond.fieldLink own index R0 nn d).before a0 Z = true ∨ (Cond.fieldLinkNest own index R0 nn d host).before a0 Z = true) (via : Via Z R0 O nn d)
    {a : Addr} {v old : Value} (F : Fld Z h a O nn d old) (E : Exa Z h a C) (L : (Cond.lays C O nn d).before a0 Z = true ∨ ((Cond.laysFinal C O nn d).before a0 Z = true ∧ own = O ∧ meth.name = "<init>")) (wi : (Cond.instantiable C kk).before a0 Z = true)
    (hty : parseFieldDescriptor d = some ty) (hn : narrow ty v = v) (hf : fits ty v = true) (ha : Z.heap.size ≤ a) (hsw : own_sw Z EL sf h a) {g : JFrame} (hg : g.method = m) {rest : List Value} (hs : g.stack = v :: .ref a :: rest) (hd : decode c.code g.pc = .ok (.putfield index, 3))
    (K : ∀ T' h', Wk p l e R s m args below meth c Z EL a0 w T' h' k n sf → Wr h h' a (Jvm.RoadKit.slotOf Z O nn d) v → Go p e below Φ T' { g with pc := g.pc + 3, stack := rest }) : Go p e below Φ T g := by
  obtain ⟨hE, vm0, locs, k0, X, eT, r, hk, hZ, N, Od, C, S⟩ := H
  obtain ⟨T', h', X', e', W, st⟩ := putF X hx hZ (own_found r hown) wd via eT F E L wi hty hn hf hg hs hd
  exact Go.of st (K T' h' (own_wrote hE X' e' W r hk hZ N Od C S ha hsw) W)
theorem own_putFN (H : Wk p l e R s m args below meth c Z EL a0 w T h k n sf) (hx : p.tables.exec = Jvm.exec) {own R0 O nn d C : String} {index kk : Nat} {ty : FieldType} (hown : s.vm.findClass own = some m.cls) (wd : (Cond.fieldLink own index R0 nn d).before a0 Z = true) (via : Via Z R0 O nn d)
    {a : Addr} {v v' old : Value} (F : Fld Z h a O nn d old) (E : Exa Z h a C) (L : (Cond.lays C O nn d).before a0 Z = true ∨ ((Cond.laysFinal C O nn d).before a0 Z = true ∧ own = O ∧ meth.name = "<init>")) (wi : (Cond.instantiable C kk).before a0 Z = true)
    (hty : parseFieldDescriptor d = some ty) (hn : narrow ty v = v') (hf : fits ty v' = true) (ha : Z.heap.size ≤ a) (hsw : own_sw Z EL sf h a) {g : JFrame} (hg : g.method = m) {rest : List Value} (hs : g.stack = v :: .ref a :: rest) (hd : decode c.code g.pc = .ok (.putfield index, 3))
    (K : ∀ T' h', Wk p l e R s m args below meth c Z EL a0 w T' h' k n sf → Wr h h' a (Jvm.RoadKit.slotOf Z O nn d) v' → Go p e below Φ T' { g with pc := g.pc + 3, stack := rest }) : Go p e below Φ T g := by
  obtain ⟨hE, vm0, locs, k0, X, eT, r, hk, hZ, N, Od, C, S⟩ := H
  obtain ⟨T', h', X', e', W, st⟩ := putFN X hx hZ (own_found r hown) wd via eT F E L wi hty hn hf hg hs hd
  exact Go.of st (K T' h' (own_wrote hE X' e' W r hk hZ N Od C S ha hsw) W)
theorem own_grew {vm0 : Vm} {locs : List Loc} {k0 : Nat} {T' : State} {h' : Heap} {k' n' : Nat} (hE : EW Z a0 EL) (X' : Stand p l e R (s.setVm vm0) m args below meth c T' locs k' n') (e' : T'.heap = h') (E : Ext h h') (hlt : h.size < h'.size) (r : own_rel w s vm0 k0) (hk : k0 ≤ h.size) (hZ : Z.Warmed39 vm0) (N : Fr Z.heap.size locs) (O : Ext Z.heap h) (C : CHr Z EL s.vm s.heap vm0 h) (S : ∀ x ∈ sf, x < h.size ∧ Safe Z EL vm0 h x) :
    Wk p l e R s m args below meth c Z EL a0 w T' h' k' n' (h.size :: sf) := by
  refine ⟨hE, vm0, _, k0, X', e', r, Nat.le_trans hk E.1, hZ, N, (Old.ext ⟨rfl, O⟩ E).2, C.trans (CHr.ext E C.1), fun x hx => ?_⟩
  rcases List.mem_cons.mp hx with rfl | hx
  · exact ⟨hlt, (Safe.new (Nat.le_refl _)).ext E C.1⟩
  · exact ⟨Nat.lt_of_lt_of_le (S x hx).1 E.1, (S x hx).2.ext E C.1⟩
theorem own_new (H : Wk p l e R s m args below meth c Z EL a0 w T h k n sf) (hx : p.tables.exec = Jvm.exec) {own C : String} {index nf : Nat} (hown : s.vm.findClass own = some m.cls) (w1 : (Cond.classLink own index C).before a0 Z = true) (wi : (Cond.instantiable C nf).before a0 Z = true) (wz : (Cond.initialized C).before a0 Z = true)
    {g : JFrame} (hg : g.method = m) (hd : decode c.code g.pc = .ok (.new index, 3)) (hc : k + 1 ≤ R.cells) (hl : n + nf ≤ R.slots)
    (K : ∀ T' h' b, b = h.size → Wk p l e R s m args below meth c Z EL a0 w T' h' (k + 1) (n + nf) (b :: sf) → Ext h h' → Exa Z h' b C → (∀ {O nm d : String} {ty : FieldType}, Laid Z a0 C O nm d → parseFieldDescriptor d = some ty → Fld Z h' b O nm d (defaultValue ty)) → Go p e below Φ T' { g with pc := g.pc + 3, stack := .ref b :: g.stack }) : Go p e below Φ T g := by
  obtain ⟨hE, vm0, locs, k0, X, eT, r, hk, hZ, N, O, C, S⟩ := H
  obtain ⟨T', h', X', e', E, A, D, -, st⟩ := newO X hx hZ (own_found r hown) w1 wi wz eT hg hd hc hl
  exact Go.of st (K T' h' _ rfl (own_grew hE X' e' E A.lt r hk hZ N O C S) E A D)
theorem own_newP (H : Wk p l e R s m args below meth c Z EL a0 w T h k n sf) (hx : p.tables.exec = Jvm.exec) {aty : ArrayType} (w1 : (Cond.arrayClass (newarray.typeOf aty)).before a0 Z = true) {g : JFrame} (hg : g.method = m) (hd : decode c.code g.pc = .ok (.newarray aty, 2)) {z : Int32} {rest : List Value} (hs : g.stack = .int z :: rest)
    (hz : ¬ z < 0) {cap : Nat} (hcap : z.toNatClampNeg ≤ cap) (hb : cap * 8 ≤ 536870912) (hc : k + 1 ≤ R.cells) (hl : n + cap ≤ R.slots)
    (K : ∀ T' h' b kA, b = h.size → Wk p l e R s m args below meth c Z EL a0 w T' h' (k + 1) (n + cap) (b :: sf) → Ext h h' → Arv Z h' b kA (newarray.typeOf aty) z [] (defaultValue (newarray.typeOf aty)) → Go p e below Φ T' { g with pc := g.pc + 2, stack := .ref b :: rest }) : Go p e below Φ T g := by
  obtain ⟨hE, vm0, locs, k0, X, eT, r, hk, hZ, N, O, C, S⟩ := H
  obtain ⟨T', h', kA, X', e', E, A, st⟩ := newP X hx hZ w1 eT hg hd hs hz hcap hb hc hl
  exact Go.of st (K T' h' _ kA rfl (own_grew hE X' e' E A.lt r hk hZ N O C S) E (Arv.new A hz))
theorem own_newR (H : Wk p l e R s m args below meth c Z EL a0 w T h k n sf) (hx : p.tables.exec = Jvm.exec) {own C : String} {index : Nat} (hown : s.vm.findClass own = some m.cls) (w1 : (Cond.classLink own index C).before a0 Z = true) (w2 : (Cond.arrayOver (.object C)).before a0 Z = true) {g : JFrame} (hg : g.method = m) (hd : decode c.code g.pc = .ok (.anewarray index, 3)) {z : Int32} {rest : List Value} (hs : g.stack = .int z :: rest)
    (hz : ¬ z < 0) {cap : Nat} (hcap : z.toNatClampNeg ≤ cap) (hb : cap * 8 ≤ 536870912) (hc : k + 1 ≤ R.cells) (hl : n + cap ≤ R.slots)
    (K : ∀ T' h' b kA, b = h.size → Wk p l e R s m args below meth c Z EL a0 w T' h' (k + 1) (n + cap) (b :: sf) → Ext h h' → Arv Z h' b kA (.object C) z [] .null → Ovr Z kA C → Go p e below Φ T' { g with pc := g.pc + 3, stack := .ref b :: rest }) : Go p e below Φ T g := by
  obtain ⟨hE, vm0, locs, k0, X, eT, r, hk, hZ, N, O, C, S⟩ := H
  obtain ⟨T', h', kA, X', e', E, A, Ov, st⟩ := newR X hx hZ (own_found r hown) w1 w2 eT hg hd hs hz hcap hb hc hl
  exact Go.of st (K T' h' _ kA rfl (own_grew hE X' e' E A.lt r hk hZ N O C S) E (Arv.new A hz) Ov)
theorem own_initO (H : Wk p l e R s m args below meth c Z EL a0 w T h k n sf) (hx : p.tables.exec = Jvm.exec) {own : String} {idx : Nat} (hown : s.vm.findClass own = some m.cls) (w1 : (Cond.methodLink own idx Lib.objectInit).before a0 Z = true) (w2 : (Cond.instanceMethod Lib.objectInit).before a0 Z = true)
    (w3 : (Cond.code Lib.objectInit ⟨#[0xb1]⟩ 1 none).before a0 Z = true) {g : JFrame} (hg : g.method = m) (hsize : g.locals.size = c.maxLocals) {a : Addr} {rest : List Value} (hs : g.stack = .ref a :: rest) (hd : decode c.code g.pc = .ok (.invokespecial idx, 3))
    (hf : 1 ≤ R.frames) {W : Nat} (hW : 2 * g.monitorRoom + (rest.map fun v => v.category).sum ≤ W) (hl : W + 12 ≤ R.locals)
    (K : ∀ T', Wk p l e R s m args below meth c Z EL a0 w T' h k n sf → Go p e below Φ T' { g with pc := g.pc + 3, stack := rest }) : Go p e below Φ T g := by
  obtain ⟨hE, vm0, locs, k0, X, eT, r, hk, hZ, N, O, C, S⟩ := H
  obtain ⟨T', X', e', st⟩ := initO X hx hZ (own_found r hown) w1 w2 w3 eT hg hsize hs hd hf hW hl
  exact Go.of st (K T' ⟨hE, vm0, locs, k0, X', e', r, hk, hZ, N, O, C, S⟩)
theorem own_ldcI (H : Wk p l e R s m args below meth c Z EL a0 w T h k n sf) (hx : p.tables.exec = Jvm.exec) {own : String} {index : Nat} {v : Int32} (hown : s.vm.findClass own = some m.cls) (wc : (Cond.constant own index v).before a0 Z = true) {g : JFrame} (hg : g.method = m) (hd : decode c.code g.pc = .ok (.ldc index, 2))
    (K : Go p e below Φ T { g with pc := g.pc + 2, stack := .int v :: g.stack }) : Go p e below Φ T g := by
  obtain ⟨hE, vm0, locs, k0, X, eT, r, hk, hZ, N, O, C, S⟩ := H
  exact Go.of (X.ldcInt hx (own_found r hown) (mvT hZ wc) hg hd) K
theorem own_len (H : Wk p l e R s m args below meth c Z EL a0 w T h k n sf) (hx : p.tables.exec = Jvm.exec) {a : Addr} {kA : ClassId} {ty : FieldType} {z : Int32} {vs : List Value} {d : Value} (V : Arv Z h a kA ty z vs d) {g : JFrame} (hg : g.method = m) {rest : List Value} (hs : g.stack = .ref a :: rest) (hd : decode c.code g.pc = .ok (.arraylength, 1))
    (K : Go p e below Φ T { g with pc := g.pc + 1, stack := .int z :: rest }) : Go p e below Φ T g := by
  obtain ⟨hE, vm0, locs, k0, X, eT, r, hk, hZ, N, O, C, S⟩ := H
  obtain ⟨cl, A, -, q, nz, -, -⟩ := V
  refine Go.of (fun t ht => X.arraylength hx (by rw [eT]; exact A.1) (State.isArrayOf_alike hZ.alike A.2.1) hg hs hd t ?_) K
  rw [len_of q nz]; exact ht
theorem own_ld {op : Instr} {ty : FieldType} (law : ∀ {s T : State} {locs : List Loc} {a : Addr} {cell : Cell} {j : Int32} {v : Value} {k n : Nat} (X : Stand p l e R s m args below meth c T locs k n) (hcell : T.heap[a]? = some cell) (harr : s.isArrayOf cell ty) (hknown : cell.vm ≠ .unknown) (hin : ¬ (j < 0 ∨ cell.slots.size ≤ j.toNatClampNeg)) (hv : cell.slots[j.toNatClampNeg]? = some v) {g : JFrame} (hg : g.method = m) {rest : List Value} (hs : g.stack = .int j :: .ref a :: rest) (hd : decode c.code g.pc = .ok (op, 1)) (target : State), Steps p.tables e below (T.setTop { g with pc := g.pc + 1, stack := v :: rest }) target → Steps p.tables e below (T.setTop g) target)
    (H : Wk p l e R s m args below meth c Z EL a0 w T h k n sf) {a : Addr} {kA : ClassId} {z j : Int32} {vs : List Value} {d v : Value} (V : Arv Z h a kA ty z vs d) (hj : ¬ j < 0 ∧ j < z) (hv : vs.getD j.toNatClampNeg d = v) {g : JFrame} (hg : g.method = m) {rest : List Value} (hs : g.stack = .int j :: .ref a :: rest) (hd : decode c.code g.pc = .ok (op, 1))
    (K : Go p e below Φ T { g with pc := g.pc + 1, stack := v :: rest }) : Go p e below Φ T g := by
  obtain ⟨hE, vm0, locs, k0, X, eT, r, hk, hZ, N, O, C, S⟩ := H
  obtain ⟨cl, A, -, q, nz, Hs, -⟩ := V
  exact Go.of (law X (by rw [eT]; exact A.1) (State.isArrayOf_alike hZ.alike A.2.1) A.2.2 (inb_of q hj) (Hs.at (inb_of q hj) hv) hg hs hd) K
theorem own_caload (H : Wk p l e R s m args below meth c Z EL a0 w T h k n sf) (hx : p.tables.exec = Jvm.exec) {a : Addr} {kA : ClassId} {z j : Int32} {vs : List Value} {d v : Value} (V : Arv Z h a kA .char z vs d) (hj : ¬ j < 0 ∧ j < z) (hv : vs.getD j.toNatClampNeg d = v) {g : JFrame} (hg : g.method = m) {rest : List Value} (hs : g.stack = .int j :: .ref a :: rest) (hd : decode c.code g.pc = .ok (.caload, 1))
    (K : Go p e below Φ T { g with pc := g.pc + 1, stack := v :: rest }) : Go p e below Φ T g := own_ld (fun {_ _ _ _ _ _ _ _ _} X h1 h2 h3 h4 h5 {_} hg {_} hs hd t k => X.caload hx h1 h2 h3 h4 h5 hg hs hd t k) H V hj hv hg hs hd K
theorem own_baload (H : Wk p l e R s m args below meth c Z EL a0 w T h k n sf) (hx : p.tables.exec = Jvm.exec) {a : Addr} {kA : ClassId} {z j : Int32} {vs : List Value} {d v : Value} (V : Arv Z h a kA .byte z vs d) (hj : ¬ j < 0 ∧ j < z) (hv : vs.getD j.toNatClampNeg d = v) {g : JFrame} (hg : g.method = m) {rest : List Value} (hs : g.stack = .int j :: .ref a :: rest) (hd : decode c.code g.pc = .ok (.baload, 1))
    (K : Go p e below Φ T { g with pc := g.pc + 1, stack := v :: rest }) : Go p e below Φ T g := own_ld (fun {_ _ _ _ _ _ _ _ _} X h1 h2 h3 h4 h5 {_} hg {_} hs hd t k => X.baloadBytes hx h1 h2 h3 h4 h5 hg hs hd t k) H V hj hv hg hs hd K
theorem own_aaload (H : Wk p l e R s m args below meth c Z EL a0 w T h k n sf) (hx : p.tables.exec = Jvm.exec) {a : Addr} {kA : ClassId} {ty : FieldType} {z j : Int32} {vs : List Value} {d v : Value} (V : Arv Z h a kA ty z vs d) (hty : ty.isReference = true) (hj : ¬ j < 0 ∧ j < z) (hv : vs.getD j.toNatClampNeg d = v) {g : JFrame} (hg : g.method = m) {rest : List Value} (hs : g.stack = .int j :: .ref a :: rest) (hd : decode c.code g.pc = .ok (.aaload, 1))
    (K : Go p e below Φ T { g with pc := g.pc + 1, stack := v :: rest }) : Go p e below Φ T g := own_ld (fun {_ _ _ _ _ _ _ _ _} X h1 h2 h3 h4 h5 {_} hg {_} hs hd t k => X.aaload hx h1 h2 hty h3 h4 h5 hg hs hd t k) H V hj hv hg hs hd K
theorem own_castore (H : Wk p l e R s m args below meth c Z EL a0 w T h k n sf) (hx : p.tables.exec = Jvm.exec) {a : Addr} {kA : ClassId} {z j x : Int32} {vs : List Value} {d : Value} (V : Arv Z h a kA .char z vs d) (hj : ¬ j < 0 ∧ j < z) (i : Nat) (hi : j.toNatClampNeg = i) (hl : i < vs.length) (ha : Z.heap.size ≤ a) {g : JFrame} (hg : g.method = m) {rest : List Value} (hs : g.stack = .int x :: .int j :: .ref a :: rest) (hd : decode c.code g.pc = .ok (.castore, 1))
    (K : ∀ T' h', Wk p l e R s m args below meth c Z EL a0 w T' h' k n sf → Wr h h' a j.toNatClampNeg (.int (nar .char x)) → Arv Z h' a kA .char z (vs.set i (.int (nar .char x))) d → Go p e below Φ T' { g with pc := g.pc + 1, stack := rest }) : Go p e below Φ T g := by
  have hsw : own_sw Z EL sf h a := own_arr V (by simp)
  obtain ⟨hE, vm0, locs, k0, X, eT, r, hk, hZ, N, O, C, S⟩ := H
  obtain ⟨cl, A, q1, q, nz, Hs, G⟩ := V
  obtain ⟨T', h', X', e', W, st⟩ := stC X hx hZ eT A (inb_of q hj) hg hs hd
  exact Go.of st (K T' h' (own_wrote hE X' e' W r hk hZ N O C S ha hsw) W (Arv.set A q1 q nz Hs G (fits_nar_char _) W i hi hl))
theorem own_bastore (H : Wk p l e R s m args below meth c Z EL a0 w T h k n sf) (hx : p.tables.exec = Jvm.exec) {a : Addr} {kA : ClassId} {z j x : Int32} {vs : List Value} {d : Value} (V : Arv Z h a kA .byte z vs d) (hj : ¬ j < 0 ∧ j < z) (i : Nat) (hi : j.toNatClampNeg = i) (hl : i < vs.length) (ha : Z.heap.size ≤ a) (hsw : own_sw Z EL sf h a) {g : JFrame} (hg : g.method = m) {rest : List Value} (hs : g.stack = .int x :: .int j :: .ref a :: rest) (hd : decode c.code g.pc = .ok (.bastore, 1))
    (K : ∀ T' h', Wk p l e R s m args below meth c Z EL a0 w T' h' k n sf → Wr h h' a j.toNatClampNeg (.int (nar .byte x)) → Arv Z h' a kA .byte z (vs.set i (.int (nar .byte x))) d → Go p e below Φ T' { g with pc := g.pc + 1, stack := rest }) : Go p e below Φ T g := by
  obtain ⟨hE, vm0, locs, k0, X, eT, r, hk, hZ, N, O, C, S⟩ := H
  obtain ⟨cl, A, q1, q, nz, Hs, G⟩ := V
  obtain ⟨T', h', X', e', W, st⟩ := stB X hx hZ eT A (inb_of q hj) hg hs hd
  exact Go.of st (K T' h' (own_wrote hE X' e' W r hk hZ N O C S ha hsw) W (Arv.set A q1 q nz Hs G (fits_nar_byte _) W i hi hl))
theorem own_aastore (H : Wk p l e R s m args below meth c Z EL a0 w T h k n sf) (hx : p.tables.exec = Jvm.exec) {a : Addr} {kA : ClassId} {C : String} {z j : Int32} {v : Value} {vs : List Value} {d : Value} (V : Arv Z h a kA (.object C) z vs d) (hj : ¬ j < 0 ∧ j < z) (i : Nat) (hi : j.toNatClampNeg = i) (hl : i < vs.length) (F : Sto Z h a v) (hf : v.isRef = true) (ha : Z.heap.size ≤ a) {g : JFrame} (hg : g.method = m) {rest : List Value} (hs : g.stack = v :: .int j :: .ref a :: rest) (hd : decode c.code g.pc = .ok (.aastore, 1))
    (K : ∀ T' h', Wk p l e R s m args below meth c Z EL a0 w T' h' k n sf → Wr h h' a j.toNatClampNeg v → Arv Z h' a kA (.object C) z (vs.set i v) d → Go p e below Φ T' { g with pc := g.pc + 1, stack := rest }) : Go p e below Φ T g := by
  have hsw : own_sw Z EL sf h a := own_arr V (by simp)
  obtain ⟨hE, vm0, locs, k0, X, eT, r, hk, hZ, N, O, C, S⟩ := H
  obtain ⟨cl, A, q1, q, nz, Hs, G⟩ := V
  obtain ⟨T', h', X', e', W, st⟩ := stR X hx hZ eT A (inb_of q hj) rfl F hg hs hd
  exact Go.of st (K T' h' (own_wrote hE X' e' W r hk hZ N O C S ha hsw) W (Arv.set A q1 q nz Hs G (by rcases ref_cases hf with rfl | ⟨_, rfl⟩ <;> rfl) W i hi hl))
theorem own_cast (H : Wk p l e R s m args below meth c Z EL a0 w T h k n sf) (hx : p.tables.exec = Jvm.exec) {own K0 : String} {index : Nat} (hown : s.vm.findClass own = some m.cls) (wd : (Cond.classLink own index K0).before a0 Z = true) {a : Addr} (F : Ins Z h a K0 true) {g : JFrame} (hg : g.method = m) {rest : List Value} (hs : g.stack = .ref a :: rest) (hd : decode c.code g.pc = .ok (.checkcast index, 3))
    (K : ∀ T', Wk p l e R s m args below meth c Z EL a0 w T' h k n sf → Go p e below Φ T' { g with pc := g.pc + 3 }) : Go p e below Φ T g := by
  obtain ⟨hE, vm0, locs, k0, X, eT, r, hk, hZ, N, O, C, S⟩ := H
  obtain ⟨T', X', e', st⟩ := castY X hx hZ (own_found r hown) wd eT F hg hs hd
  exact Go.of st (K T' ⟨hE, vm0, locs, k0, X', e', r, hk, hZ, N, O, C, S⟩)
theorem own_inst (H : Wk p l e R s m args below meth c Z EL a0 w T h k n sf) (hx : p.tables.exec = Jvm.exec) {own K0 : String} {index : Nat} (hown : s.vm.findClass own = some m.cls) (wd : (Cond.classLink own index K0).before a0 Z = true) {a : Addr} (F : Ins Z h a K0 true) {g : JFrame} (hg : g.method = m) {rest : List Value} (hs : g.stack = .ref a :: rest) (hd : decode c.code g.pc = .ok (.instanceof index, 3))
    (K : ∀ T', Wk p l e R s m args below meth c Z EL a0 w T' h k n sf → Go p e below Φ T' { g with pc := g.pc + 3, stack := .int 1 :: rest }) : Go p e below Φ T g := by
  obtain ⟨hE, vm0, locs, k0, X, eT, r, hk, hZ, N, O, C, S⟩ := H
  obtain ⟨T', X', e', st⟩ := instY X hx hZ (own_found r hown) wd eT F hg hs hd
  exact Go.of st (K T' ⟨hE, vm0, locs, k0, X', e', r, hk, hZ, N, O, C, S⟩)
/-- behind a literal or a call that may intern -/
theorem own_past {vm0 : Vm} {k1 : Nat} {T' : State} {h' : Heap} {locs' : List Loc} {k' n' : Nat} (hE : EW Z a0 EL) (X' : Stand p l e R (s.setVm T'.vm) m args below meth c T' locs' k' n') (e' : T'.heap = h') (r : s.Since T'.vm k1) (hk : k1 ≤ h'.size) (hZ : Z.Warmed39 T'.vm) (N : Fr Z.heap.size locs') (O : Ext Z.heap h') (C : CHr Z EL s.vm s.heap vm0 h) (C' : CHr Z EL vm0 h T'.vm h') (S : ∀ x ∈ sf, x < h.size ∧ Safe Z EL vm0 h x) :
    Wk p l e R s m args below meth c Z EL a0 true T' h' k' n' sf :=
  ⟨hE, T'.vm, _, k1, X', e', r, hk, hZ, N, O, C.trans C', fun x hx => ⟨Nat.lt_of_lt_of_le (S x hx).1 C'.2.1, C'.safe (S x hx).1 (S x hx).2⟩⟩
theorem own_pastG {vm0 : Vm} {k1 : Nat} {T' : State} {h' : Heap} {locs' : List Loc} {k' n' : Nat} {gl : List Addr} (GL : ∀ x ∈ gl, x < h'.size ∧ Safe Z EL T'.vm h' x) (hE : EW Z a0 EL) (X' : Stand p l e R (s.setVm T'.vm) m args below meth c T' locs' k' n') (e' : T'.heap = h') (r : s.Since T'.vm k1) (hk : k1 ≤ h'.size) (hZ : Z.Warmed39 T'.vm) (N : Fr Z.heap.size locs') (O : Ext Z.heap h') (C : CHr Z EL s.vm s.heap vm0 h) (C' : CHr Z EL vm0 h T'.vm h') (S : ∀ x ∈ sf, x < h.size ∧ Safe Z EL vm0 h x) :
    Wk p l e R s m args below meth c Z EL a0 true T' h' k' n' (gl ++ sf) :=
  ⟨hE, T'.vm, _, k1, X', e', r, hk, hZ, N, O, C.trans C', fun x hx => (List.mem_append.mp hx).elim (GL x) fun hx => ⟨Nat.lt_of_lt_of_le (S x hx).1 C'.2.1, C'.safe (S x hx).1 (S x hx).2⟩⟩
theorem own_ldcS (H : Wk p l e R s m args below meth c Z EL a0 true T h k n sf) (hx : p.tables.exec = Jvm.exec) {own text : String} {index : Nat} (hown : s.vm.findClass own = some m.cls) (wd : (Cond.stringLink own index text).before a0 Z = true) (wS : ∀ a ∈ Bundle.stringAtoms, a.before a0 Z = true) (hmem : (own, index) ∈ EL)
    {vs : List Value} {z : Int32} (ht : (∀ c ∈ text.toList, c.toNat < 256) ∧ text.toList.map (fun c => Value.int (Jvm.Lit.byteI c.toNat.toUInt16)) = vs) (hz : ¬ z < 0) (hl : z.toNatClampNeg = vs.length)
    {g : JFrame} (hg : g.method = m) (hd : decode c.code g.pc = .ok (.ldc index, 2)) {nn : Nat} (hn : 4 * text.toList.length ≤ nn) (hbig : nn ≤ 536870912) (hc : k + 2 ≤ R.cells) (hl' : n + (nn + 4) ≤ R.slots)
    (K : ∀ T' h' a b kb, Wk p l e R s m args below meth c Z EL a0 true T' h' (k + 2) (n + (nn + 4)) sf → Ext h h' → Exa Z h' a "java/lang/String" → Fld Z h' a "java/lang/String" "coder" "B" (.int 0) → Fld Z h' a "java/lang/String" "value" "[B" (.ref b) → Arv Z h' b kb .byte z vs (.int 0) → (∀ x ∈ sf, x ≠ a ∧ x ≠ b) → Go p e below Φ T' { g with pc := g.pc + 2, stack := .ref a :: g.stack }) : Go p e below Φ T g := by
  obtain ⟨hE, vm0, locs, k0, X, eT, r, hk, hZ, N, O, C, S⟩ := H
  obtain ⟨a, T', h', k1, b, kb, X', e', E, r', hk', hZ', hf', E1, F1, F2, V, -, -, C', -, hne, st⟩ := ldcCH X hx hZ (own_found r hown) wd wS eT r hk hE hmem C.1 ht hz hl hg hd hn hbig hc hl'
  have H' : Wk p l e R s m args below meth c Z EL a0 true T' h' (k + 2) (n + (nn + 4)) sf := own_past hE X' e' r' hk' hZ' N (Old.ext ⟨rfl, O⟩ E).2 C C' S
  exact Go.of st (K T' h' a b kb H' E E1 F1 F2 V fun x hx => hne x (C'.safe (S x hx).1 (S x hx).2))
theorem own_ldcO (H : Wk p l e R s m args below meth c Z EL a0 true T h k n sf) (hx : p.tables.exec = Jvm.exec) {own text : String} {index : Nat} (hown : s.vm.findClass own = some m.cls) (wd : (Cond.stringLink own index text).before a0 Z = true) (wS : ∀ a ∈ Bundle.stringAtoms, a.before a0 Z = true)
    {g : JFrame} (hg : g.method = m) (hd : decode c.code g.pc = .ok (.ldc index, 2)) {nn : Nat} (hn : 4 * text.toList.length ≤ nn) (hbig : nn ≤ 536870912) (hc : k + 2 ≤ R.cells) (hl' : n + (nn + 4) ≤ R.slots)
    (K : ∀ T' h' a, Wk p l e R s m args below meth c Z EL a0 true T' h' (k + 2) (n + (nn + 4)) sf → Ext h h' → Go p e below Φ T' { g with pc := g.pc + 2, stack := .ref a :: g.stack }) : Go p e below Φ T g := by
  obtain ⟨hE, vm0, locs, k0, X, eT, r, hk, hZ, N, O, C, S⟩ := H
  obtain ⟨a, T', h', k1, X', e', E, r', hk', hZ', hf', C', -, st⟩ := ldcOH X hx hZ (own_found r hown) wd wS eT r hk hE C.1 hg hd hn hbig hc hl'
  exact Go.of st (K T' h' a (own_past hE X' e' r' hk' hZ' N (Old.ext ⟨rfl, O⟩ E).2 C C' S) E)
/-! returns -/
theorem own_leave (H : Wk p l e R s m args below meth c Z EL a0 w T h k n sf) {v : Option Value} {gs : Option Value → List Addr} {Q : Option Value → Heap → Prop} (hl : meth.locks = false) (hgs : ∀ x ∈ gs v, x ∈ sf) (hv : meth.sig.returnType = none → v = none) (q : Q v h) (hk : k ≤ R.cells) (hn : n ≤ R.slots) {g : JFrame}
    (st : ∀ {locs : List Loc} {s' : State} (X : Stand p l e R s' m args below meth c T locs k n) {fs : List Frame}, (∀ (f : JFrame) (acts : List Action), f.method = m → f.locked = none → f.entered = [] → (doReturn e (T.setTop f) acts v).1 = T.setFrames fs) → Steps p.tables e below (T.setTop g) (T.setFrames fs)) :
    Go p e below (own_fin Z EL w s below Q R.cells R.slots gs) T g := by
  obtain ⟨hE, vm0, locs, k0, X, eT, r, hk0, hZ, N, O, C, S⟩ := H
  have CA := CHv.at X hZ hE C.1
  have CU : CHr Z EL s.vm s.heap T.vm T.heap := by rw [eT]; exact C.trans CA
  have GS : ∀ x ∈ gs v, x < T.heap.size ∧ Safe Z EL T.vm T.heap x := fun x hx => by rw [eT]; exact ⟨(S x (hgs x hx)).1, CA.safe (S x (hgs x hx)).1 (S x (hgs x hx)).2⟩
  cases w
  · have r : vm0 = s.vm := r
    subst r
    obtain ⟨fs, hr, hrun, hended, hW, hsame⟩ := X.leave hv hl
    exact ⟨_, st X hr, _, hrun, hended, v, locs, rfl, ⟨N, by show Ext Z.heap T.heap; rw [eT]; exact O, GS, by show Q v T.heap; rw [eT]; exact q⟩, CU, ⟨⟨v, rfl⟩, hW, hsame.mono hk hn⟩⟩
  · obtain ⟨fs, hr, hrun, hended, hend⟩ := X.leaveW r (by rw [eT]; exact hk0) hv hl
    exact ⟨_, st X hr, _, hrun, hended, v, locs, rfl, ⟨N, by show Ext Z.heap T.heap; rw [eT]; exact O, GS, by show Q v T.heap; rw [eT]; exact q⟩, CU, ⟨hend.1, hend.2.1, hend.2.2.1, hend.2.2.2.mono hk hn⟩⟩
theorem own_retI (H : Wk p l e R s m args below meth c Z EL a0 w T h k n sf) (hx : p.tables.exec = Jvm.exec) (hl : meth.locks = false) (hret : meth.sig.returnType = some .int) {pc : Nat} {Ls : Array Slot} {z : Int32} {rest : List Value} {gs : Option Value → List Addr} {Q : Option Value → Heap → Prop} (hd : decode c.code pc = .ok (.ireturn, 1)) (hgs : ∀ x ∈ gs (some (.int z)), x ∈ sf) (q : Q (some (.int z)) h) (hk : k ≤ R.cells) (hn : n ≤ R.slots) :
    Go p e below (own_fin Z EL w s below Q R.cells R.slots gs) T (mkF m pc Ls (.int z :: rest)) :=
  own_leave H hl hgs (fun h => by rw [hret] at h; cases h) q hk hn fun {_ _} X {_} hr => retI X hx hret hd hr
theorem own_retN (H : Wk p l e R s m args below meth c Z EL a0 w T h k n sf) (hx : p.tables.exec = Jvm.exec) (hl : meth.locks = false) {t : FieldType} (hret : meth.sig.returnType = some t) (ht : t = .boolean ∨ t = .byte ∨ t = .char ∨ t = .short) {pc : Nat} {Ls : Array Slot} {z : Int32} {rest : List Value} {gs : Option Value → List Addr} {Q : Option Value → Heap → Prop} (hd : decode c.code pc = .ok (.ireturn, 1)) (hgs : ∀ x ∈ gs (some (.int (nar t z))), x ∈ sf) (q : Q (some (.int (nar t z))) h) (hk : k ≤ R.cells) (hn : n ≤ R.slots) :
    Go p e below (own_fin Z EL w s below Q R.cells R.slots gs) T (mkF m pc Ls (.int z :: rest)) :=
  own_leave H hl hgs (fun h => by rw [hret] at h; cases h) q hk hn fun {_ _} X {_} hr => retN X hx hret ht hd hr
theorem own_ret (H : Wk p l e R s m args below meth c Z EL a0 w T h k n sf) (hx : p.tables.exec = Jvm.exec) (hl : meth.locks = false) (hret : meth.sig.returnType = none) {pc : Nat} {Ls : Array Slot} {gs : Option Value → List Addr} {Q : Option Value → Heap → Prop} (hd : decode c.code pc = .ok (.return_, 1)) (hgs : ∀ x ∈ gs none, x ∈ sf) (q : Q none h) (hk : k ≤ R.cells) (hn : n ≤ R.slots) :
    Go p e below (own_fin Z EL w s below Q R.cells R.slots gs) T (mkF m pc Ls []) :=
  own_leave H hl hgs (fun _ => rfl) q hk hn fun {_ _} X {_} hr => X.returnOut hx hret hd hr
theorem own_retA_step {locs : List Loc} (X : Stand p l e R s m args below meth c T locs k n) (hx : p.tables.exec = Jvm.exec) {t : FieldType} (hret : meth.sig.returnType = some t) (ht : t.isReference = true) {pc : Nat} {Ls : Array Slot} {v : Value} (hv : v.isRef = true) {rest : List Value} (hd : decode c.code pc = .ok (.areturn, 1)) {fs : List Frame}
    (hr : ∀ (f : JFrame) (acts : List Action), f.method = m → f.locked = none → f.entered = [] → (doReturn e (T.setTop f) acts (some v)).1 = T.setFrames fs) : Steps p.tables e below (T.setTop (mkF m pc Ls (v :: rest))) (T.setFrames fs) := by
  have hm' : T.vm.method? m = some meth := X.method'
  show Steps p.tables e below (T.setTop { method := m, pc := pc, locals := Ls, stack := _ :: rest, locked := none }) _
  jvm_step X.here [X.here.top, hx, hd, hm', hret, hv, ht]
  first | (intro acts; rw [hr _ acts rfl rfl rfl]) | rw [hr _ _ rfl rfl rfl]
  exact Steps.refl _
theorem own_retA (H : Wk p l e R s m args below meth c Z EL a0 w T h k n sf) (hx : p.tables.exec = Jvm.exec) (hl : meth.locks = false) {t : FieldType} (hret : meth.sig.returnType = some t) (ht : t.isReference = true) {pc : Nat} {Ls : Array Slot} {v : Value} (hv : v.isRef = true) {rest : List Value} {gs : Option Value → List Addr} {Q : Option Value → Heap → Prop} (hd : decode c.code pc = .ok (.areturn, 1)) (hgs : ∀ x ∈ gs (some v), x ∈ sf) (q : Q (some v) h) (hk : k ≤ R.cells) (hn : n ≤ R.slots) :
    Go p e below (own_fin Z EL w s below Q R.cells R.slots gs) T (mkF m pc Ls (v :: rest)) :=
  own_leave H hl hgs (fun h => by rw [hret] at h; cases h) q hk hn fun {_ _} X {_} hr => own_retA_step X hx hret ht hv hd hr
/-! calls that a law of the library pays (Back), or a narrow contract -/
theorem own_kept {vm0 : Vm} {locs L : List Loc} {k0 : Nat} {kc kn : Nat} {B : Pt} {ws : List Addr} (hE : EW Z a0 EL) (X' : Stand p l e R (s.setVm vm0) m args below meth c B.U B.locs B.cells B.slots) (r : own_rel w s vm0 k0) (hk : k0 ≤ h.size) (hZ : Z.Warmed39 vm0) (N : Fr Z.heap.size locs) (O : Ext Z.heap h) (C : CHr Z EL s.vm s.heap vm0 h) (S : ∀ x ∈ sf, x < h.size ∧ Safe Z EL vm0 h x)
    (hL : Fr Z.heap.size L) (Kp : Keep h B.U.heap ws) (hws : ∀ x ∈ ws, Z.heap.size ≤ x ∧ own_sw Z EL sf h x) (el : B.locs = locs ++ L) (ek : B.cells = k + kc) (en : B.slots = n + kn) : Wk p l e R s m args below meth c Z EL a0 w B.U B.U.heap (k + kc) (n + kn) sf := by
  have hs : ∀ x ∈ ws, Safe Z EL vm0 h x := fun x hx => (hws x hx).2.safe hZ.alike S
  refine ⟨hE, vm0, locs ++ L, k0, by rw [← el, ← ek, ← en]; exact X', rfl, r, Nat.le_trans hk Kp.1, hZ, Fr.app N hL, (Old.keep ⟨rfl, O⟩ Kp fun x hx => (hws x hx).1).2, C.trans (CHr.keep Kp hs C.1), fun x hx => ⟨Nat.lt_of_lt_of_le (S x hx).1 Kp.1, (S x hx).2.keep Kp hs C.1⟩⟩
theorem own_staticB (H : Wk p l e R s m args below meth c Z EL a0 w T h k n sf) (hx : p.tables.exec = Jvm.exec) {own : String} {index : Nat} {y : MethodName} {bytes : ByteArray} {maxL : Nat} {ret : Option FieldType} (hown : s.vm.findClass own = some m.cls) (w1 : (Cond.methodLink own index y).before a0 Z = true) (w2 : (Cond.static y).before a0 Z = true) (w3 : (Cond.initialized y.cls).before a0 Z = true) (w4 : (Cond.code y bytes maxL ret).before a0 Z = true)
    (hy : y.cls ≠ "java/lang/invoke/MethodHandle" ∧ y.cls ≠ "java/lang/invoke/VarHandle") {W kc kn : Nat} {as' : Array Value} (Q : Option Value → Heap → List Loc → Prop)
    (hB : ∀ vm0, Z.Warmed39 vm0 → CHv Z EL vm0 h → Back l R p e below (s.setVm vm0) args y 3 W (fun A a => a = as' ∧ A.U.heap = h ∧ A.cells + kc ≤ R.cells ∧ A.slots + kn ≤ R.slots) (fun A _ v B => ∃ L, Q v B.U.heap L ∧ B.locs = A.locs ++ L ∧ B.cells = A.cells + kc ∧ B.slots = A.slots + kn))
    {ws : List Addr} (hq : ∀ v h' L, Q v h' L → Fr Z.heap.size L ∧ Keep h h' ws) (hws : ∀ x ∈ ws, Z.heap.size ≤ x ∧ own_sw Z EL sf h x)
    {g : JFrame} (hg : g.method = m) (hsize : g.locals.size = c.maxLocals) {argsL rest : List Value} (has : argsL.toArray = as') (hlen : ∀ sig, parseMethodDescriptor y.desc = some sig → argsL.length = sig.parameters.length) (hstack : g.stack = argsL.reverse ++ rest) (hW : 2 * g.monitorRoom + (rest.map fun v => v.category).sum ≤ W) (hd : decode c.code g.pc = .ok (.invokestatic index, 3)) (hc : k + kc ≤ R.cells) (hn : n + kn ≤ R.slots)
    (K : ∀ T' h' v L, Wk p l e R s m args below meth c Z EL a0 w T' h' (k + kc) (n + kn) sf → Q v h' L → Go p e below Φ T' { g with pc := g.pc + 3, stack := v.toList ++ rest }) : Go p e below Φ T g := by
  obtain ⟨hE, vm0, locs, k0, X, eT, r, hk, hZ, N, O, C, S⟩ := H
  obtain ⟨v, vm1, B, hWm, X', ⟨L, hQ, el, ek, en⟩, st⟩ := Jvm.LawKit.callS X hx (own_found r hown) (mvT hZ w1) (mvT hZ w2) (mvT hZ w3) (mvT hZ w4) hy (hB vm0 hZ C.1) hg hsize hlen hstack hW hd fun _ _ => ⟨has, eT, hc, hn⟩
  obtain ⟨hL, Kp⟩ := hq _ _ _ hQ
  exact Go.of st (K B.U _ v L (own_kept hE X' r hk hZ N O C S hL Kp hws el ek en) hQ)
theorem own_specialB (H : Wk p l e R s m args below meth c Z EL a0 w T h k n sf) (hx : p.tables.exec = Jvm.exec) {own : String} {index : Nat} {y : MethodName} {bytes : ByteArray} {maxL : Nat} (hy1 : y.name = "<init>") (hown : s.vm.findClass own = some m.cls) (w1 : (Cond.methodLink own index y).before a0 Z = true) (w2 : (Cond.instanceMethod y).before a0 Z = true) (w4 : (Cond.code y bytes maxL none).before a0 Z = true)
    (hy : y.cls ≠ "java/lang/invoke/MethodHandle" ∧ y.cls ≠ "java/lang/invoke/VarHandle") {W kc kn : Nat} {as' : Array Value} (Q : Option Value → Heap → List Loc → Prop)
    (hB : ∀ vm0, Z.Warmed39 vm0 → CHv Z EL vm0 h → Back l R p e below (s.setVm vm0) args y 3 W (fun A a => a = as' ∧ A.U.heap = h ∧ A.cells + kc ≤ R.cells ∧ A.slots + kn ≤ R.slots) (fun A _ v B => ∃ L, Q v B.U.heap L ∧ B.locs = A.locs ++ L ∧ B.cells = A.cells + kc ∧ B.slots = A.slots + kn))
    {ws : List Addr} (hq : ∀ v h' L, Q v h' L → Fr Z.heap.size L ∧ Keep h h' ws) (hws : ∀ x ∈ ws, Z.heap.size ≤ x ∧ own_sw Z EL sf h x)
    {g : JFrame} (hg : g.method = m) (hsize : g.locals.size = c.maxLocals) {a : Addr} {argsL rest : List Value} (has : (.ref a :: argsL).toArray = as') (hlen : ∀ sig, parseMethodDescriptor y.desc = some sig → argsL.length = sig.parameters.length) (hstack : g.stack = argsL.reverse ++ .ref a :: rest) (hW : 2 * g.monitorRoom + (rest.map fun v => v.category).sum ≤ W) (hd : decode c.code g.pc = .ok (.invokespecial index, 3)) (hc : k + kc ≤ R.cells) (hn : n + kn ≤ R.slots)
    (K : ∀ T' h' v L, Wk p l e R s m args below meth c Z EL a0 w T' h' (k + kc) (n + kn) sf → Q v h' L → Go p e below Φ T' { g with pc := g.pc + 3, stack := v.toList ++ rest }) : Go p e below Φ T g := by
  obtain ⟨hE, vm0, locs, k0, X, eT, r, hk, hZ, N, O, C, S⟩ := H
  obtain ⟨v, vm1, B, hWm, X', ⟨L, hQ, el, ek, en⟩, st⟩ := X.specialBack hx hy1 (own_found r hown) (mvT hZ w1) (mvT hZ w2) (mvT hZ w4) hy (hB vm0 hZ C.1) hg hsize (Steps.refl _) hlen hstack hW hd fun _ _ => ⟨has, eT, hc, hn⟩
  obtain ⟨hL, Kp⟩ := hq _ _ _ hQ
  exact Go.by st (K B.U _ v L (own_kept hE X' r hk hZ N O C S hL Kp hws el ek en) hQ)
theorem own_virtualB (H : Wk p l e R s m args below meth c Z EL a0 w T h k n sf) (hx : p.tables.exec = Jvm.exec) {own C : String} {index : Nat} {y z : MethodName} (hown : s.vm.findClass own = some m.cls) (w1 : (Cond.methodLink own index y).before a0 Z = true) (w2 : (Cond.declares y).before a0 Z = true) (w3 : (Cond.selects C y z).before a0 Z = true) (hnf : y = z) (w4 : (Cond.instanceMethod z).before a0 Z = true)
    (hy : y.cls ≠ "java/lang/invoke/MethodHandle" ∧ y.cls ≠ "java/lang/invoke/VarHandle") {W kc kn : Nat} {as' : Array Value} (Q : Option Value → Heap → List Loc → Prop)
    (hB : ∀ vm0, Z.Warmed39 vm0 → CHv Z EL vm0 h → Back l R p e below (s.setVm vm0) args z 3 W (fun A a => a = as' ∧ A.U.heap = h ∧ A.cells + kc ≤ R.cells ∧ A.slots + kn ≤ R.slots) (fun A _ v B => ∃ L, Q v B.U.heap L ∧ B.locs = A.locs ++ L ∧ B.cells = A.cells + kc ∧ B.slots = A.slots + kn))
    {ws : List Addr} (hq : ∀ v h' L, Q v h' L → Fr Z.heap.size L ∧ Keep h h' ws) (hws : ∀ x ∈ ws, Z.heap.size ≤ x ∧ own_sw Z EL sf h x)
    {b : Addr} (E : Exa Z h b C) {g : JFrame} (hg : g.method = m) (hsize : g.locals.size = c.maxLocals) {argsL rest : List Value} (has : (.ref b :: argsL).toArray = as') (hlen : ∀ sig, parseMethodDescriptor y.desc = some sig → argsL.length = sig.parameters.length) (hstack : g.stack = argsL.reverse ++ .ref b :: rest) (hW : 2 * g.monitorRoom + (rest.map fun v => v.category).sum ≤ W) (hd : decode c.code g.pc = .ok (.invokevirtual index, 3)) (hc : k + kc ≤ R.cells) (hn : n + kn ≤ R.slots)
    (K : ∀ T' h' v L, Wk p l e R s m args below meth c Z EL a0 w T' h' (k + kc) (n + kn) sf → Q v h' L → Go p e below Φ T' { g with pc := g.pc + 3, stack := v.toList ++ rest }) : Go p e below Φ T g := by
  subst hnf
  obtain ⟨hE, vm0, locs, k0, X, eT, r, hk, hZ, N, O, C, S⟩ := H
  obtain ⟨cq, kq, qa, qb, qc⟩ := isOf (s := s.setVm vm0) hZ eT E
  obtain ⟨v, vm1, B, hWm, X', ⟨L, hQ, el, ek, en⟩, st⟩ := X.virtualBack hx (own_found r hown) (mvT hZ w1) (mvT hZ w2) (notFace_of_selects (args := #[]) (mvT hZ w3)) (mvT hZ w3) (mvT hZ w4) hy (hB vm0 hZ C.1) qa qc hg hsize (Steps.refl _) hlen hstack hW hd fun _ _ => ⟨has, eT, hc, hn⟩
  obtain ⟨hL, Kp⟩ := hq _ _ _ hQ
  exact Go.by st (K B.U _ v L (own_kept hE X' r hk hZ N O C S hL Kp hws el ek en) hQ)
/-- a narrow contract at a call -/
theorem own_backN {y : MethodName} {bytes : ByteArray} {maxL : Nat} {ret : Option FieldType} {rm : Room} {len W : Nat} {as' : Array Value} {vm0 : Vm} {Q : Option Value → Heap → Prop} (hM : Ct l Z [] a0 false y bytes maxL ret [] rm as' h [] (fun _ => []) Q)
    (wc : (Cond.code y bytes maxL ret).before a0 Z = true) (wz : (Cond.initialized y.cls).before a0 Z = true) (hf : rm.frames + 1 ≤ R.frames) (hl : W + (maxL + 11) + rm.locals ≤ R.locals) (hZ : Z.Warmed39 vm0) :
    Back l R p e below (s.setVm vm0) args y len W (fun A a => a = as' ∧ A.U.heap = h ∧ A.cells + rm.cells ≤ R.cells ∧ A.slots + rm.slots ≤ R.slots) (fun A _ v B => ∃ L, (Fr Z.heap.size L ∧ Ext Z.heap B.U.heap ∧ Q v B.U.heap) ∧ B.locs = A.locs ++ L ∧ B.cells = A.cells + rm.cells ∧ B.slots = A.slots + rm.slots) := by
  refine backOf (s := s.setVm vm0) (Q := fun v h' L => Fr Z.heap.size L ∧ Ext Z.heap h' ∧ Q v h') ?_ hZ wc wz hf hl
  intro p e ha hc hk s m args below hf happ hP hK
  obtain ⟨n, o, h1, h2, h3, v, L, rfl, ⟨r1, r2, -, r3⟩, -, q⟩ := hM p e ha hc hk s m args below hf happ ⟨hP.1, hP.2.1, hP.2.2, (fun _ hq => nomatch hq), (fun _ hq => nomatch hq)⟩ hK
  exact ⟨n, _, h1, h2, h3, v, L, rfl, ⟨r1, r2, r3⟩, q⟩
/-! calls of a callee that may intern -/
theorem own_backW {y : MethodName} {bytes : ByteArray} {maxL : Nat} {ret : Option FieldType} {rm : Room} {len W : Nat} {as' : Array Value} {sfc : List Addr} {vm0 : Vm} {gs : Option Value → List Addr} {Q : Option Value → Heap → Prop} (hM : Ct l Z EL a0 true y bytes maxL ret [] rm as' h sfc gs Q)
    (wc : (Cond.code y bytes maxL ret).before a0 Z = true) (wz : (Cond.initialized y.cls).before a0 Z = true) (hf : rm.frames + 1 ≤ R.frames) (hl : W + (maxL + 11) + rm.locals ≤ R.locals) (hZ : Z.Warmed39 vm0) (hE : EW Z a0 EL) (H : CHv Z EL vm0 h) (S : ∀ x ∈ sfc, x < h.size ∧ Safe Z EL vm0 h x) :
    BackS l R p e below (s.setVm vm0) args y len W (fun A a => a = as' ∧ A.U.heap = h ∧ A.cells + rm.cells ≤ R.cells ∧ A.slots + rm.slots ≤ R.slots)
      (fun A _ v B => ∃ L, (Fr Z.heap.size L ∧ Ext Z.heap B.U.heap ∧ (∀ x ∈ gs v, x < B.U.heap.size ∧ Safe Z EL B.U.vm B.U.heap x) ∧ Q v B.U.heap) ∧ B.locs = A.locs ++ L ∧ B.cells = A.cells + rm.cells ∧ B.slots = A.slots + rm.slots ∧ CHr Z EL vm0 h B.U.vm B.U.heap) :=
  BackS.of_freeW (bytes := bytes) (maxL := maxL) (ret := ret) (E := fun _ first o t L k n => k = rm.cells ∧ n = rm.slots ∧ (∃ v, o = .returned v ∧ Fr Z.heap.size L ∧ Ext Z.heap t.heap ∧ (∀ x ∈ gs v, x < t.heap.size ∧ Safe Z EL t.vm t.heap x) ∧ Q v t.heap) ∧ CHr Z EL first.vm first.heap t.vm t.heap) hM hf hl
    (fun m meth c A a Y hp => have hU : Z.Warmed39 A.U.vm := wtrans (s := s.setVm vm0) hZ Y.warmed
      ⟨by show (Cond.and _ .tt).before a A.U = true; rw [Cond.before_and, mv hU wc]; rfl, mv hU wc, mv hU wz, hp.2.2.1, hp.2.2.2⟩)
    (fun m meth c A a g mk Y hp => have q := CHv.at Y hZ hE H
      ⟨hp.1, wtrans (s := s.setVm vm0) hZ Y.warmed, hp.2.1, q.1, fun x hx => ⟨(S x hx).1, q.safe (S x hx).1 (S x hx).2⟩⟩) (fun _ _ _ _ _ _ _ _ _ => trivial)
    (fun _ _ _ _ ⟨v, L, h1, h2, h3, h4⟩ => ⟨L, _, _, h4, rfl, rfl, ⟨v, h1, h2⟩, h3⟩)
    (fun m meth c A a g mk v t L k n Y hp _ _ ⟨e1, e2, ⟨v', e3, e4⟩, e5⟩ => by
      cases e3; subst e1 e2
      refine ⟨L, e4, rfl, rfl, rfl, (CHv.at Y hZ hE H).trans ?_⟩
      rw [← hp.2.1]; exact e5)
theorem own_wide {vm0 : Vm} {locs L : List Loc} {k0 : Nat} {kc kn : Nat} {B : Pt} (hE : EW Z a0 EL) (X' : Stand p l e R (s.setVm B.U.vm) m args below meth c B.U B.locs B.cells B.slots) (r : s.Since vm0 k0) (hk : k0 ≤ h.size) (eT : T.heap = h) (h2 : (s.setVm vm0).Since B.U.vm B.U.heap.size) (gr : T.heap.size ≤ B.U.heap.size) (hZ : Z.Warmed39 vm0) (N : Fr Z.heap.size locs) (C : CHr Z EL s.vm s.heap vm0 h) (S : ∀ x ∈ sf, x < h.size ∧ Safe Z EL vm0 h x)
    (hL : Fr Z.heap.size L) (O : Ext Z.heap B.U.heap) {gl : List Addr} (GL : ∀ x ∈ gl, x < B.U.heap.size ∧ Safe Z EL B.U.vm B.U.heap x) (el : B.locs = locs ++ L) (ek : B.cells = k + kc) (en : B.slots = n + kn) (C' : CHr Z EL vm0 h B.U.vm B.U.heap) : Wk p l e R s m args below meth c Z EL a0 true B.U B.U.heap (k + kc) (n + kn) (gl ++ sf) := by
  refine own_pastG GL hE (by rw [← ek, ← en]; exact X') rfl (r.trans h2 (Nat.le_trans hk (by rw [← eT]; exact gr))) (Nat.le_refl _) (State.Warmed39.trans (t := s.setVm vm0) hZ h2.1) (by rw [el]; exact Fr.app N hL) O C C' S
theorem own_staticW (H : Wk p l e R s m args below meth c Z EL a0 true T h k n sf) (hx : p.tables.exec = Jvm.exec) {own : String} {index : Nat} {y : MethodName} {bytes : ByteArray} {maxL : Nat} {ret : Option FieldType} (hown : s.vm.findClass own = some m.cls) (w1 : (Cond.methodLink own index y).before a0 Z = true) (w2 : (Cond.static y).before a0 Z = true) (w3 : (Cond.initialized y.cls).before a0 Z = true) (w4 : (Cond.code y bytes maxL ret).before a0 Z = true)
    (hy : y.cls ≠ "java/lang/invoke/MethodHandle" ∧ y.cls ≠ "java/lang/invoke/VarHandle") {W : Nat} {rm : Room} {as' : Array Value} {sfc : List Addr} {gs : Option Value → List Addr} {Q : Option Value → Heap → Prop} (hM : Ct l Z EL a0 true y bytes maxL ret [] rm as' h sfc gs Q) (hsf : ∀ x ∈ sfc, x ∈ sf) (hf : rm.frames + 1 ≤ R.frames) (hl : W + (maxL + 11) + rm.locals ≤ R.locals)
    {g : JFrame} (hg : g.method = m) (hsize : g.locals.size = c.maxLocals) {argsL rest : List Value} (has : argsL.toArray = as') (hlen : ∀ sig, parseMethodDescriptor y.desc = some sig → argsL.length = sig.parameters.length) (hstack : g.stack = argsL.reverse ++ rest) (hW : 2 * g.monitorRoom + (rest.map fun v => v.category).sum ≤ W) (hd : decode c.code g.pc = .ok (.invokestatic index, 3)) (hc : k + rm.cells ≤ R.cells) (hn : n + rm.slots ≤ R.slots)
    (K : ∀ T' h' v, Wk p l e R s m args below meth c Z EL a0 true T' h' (k + rm.cells) (n + rm.slots) (gs v ++ sf) → h.size ≤ h'.size → Q v h' → Go p e below Φ T' { g with pc := g.pc + 3, stack := v.toList ++ rest }) : Go p e below Φ T g := by
  obtain ⟨hE, vm0, locs, k0, X, eT, r, hk, hZ, N, O, C, S⟩ := H
  obtain ⟨v, vm1, B, hWm, X', h2, gr, ⟨L, ⟨hL, O', GL, hQ⟩, el, ek, en, C'⟩, st⟩ := callSS X hx (own_found r hown) (mvT hZ w1) (mvT hZ w2) (mvT hZ w3) (mvT hZ w4) hy (own_backW hM w4 w3 hf hl hZ hE C.1 fun x hx => S x (hsf x hx)) hg hsize hlen hstack hW hd fun _ _ => ⟨has, eT, hc, hn⟩
  exact Go.by st (K B.U _ v (own_wide (s := s) hE X' r hk eT h2 gr hZ N C S hL O' GL el ek en C') C'.2.1 hQ)
theorem own_specialW (H : Wk p l e R s m args below meth c Z EL a0 true T h k n sf) (hx : p.tables.exec = Jvm.exec) {own : String} {index : Nat} {y : MethodName} {bytes : ByteArray} {maxL : Nat} (hy1 : y.name = "<init>") (hown : s.vm.findClass own = some m.cls) (w1 : (Cond.methodLink own index y).before a0 Z = true) (w2 : (Cond.instanceMethod y).before a0 Z = true) (w3 : (Cond.initialized y.cls).before a0 Z = true) (w4 : (Cond.code y bytes maxL none).before a0 Z = true)
    (hy : y.cls ≠ "java/lang/invoke/MethodHandle" ∧ y.cls ≠ "java/lang/invoke/VarHandle") {W : Nat} {rm : Room} {as' : Array Value} {sfc : List Addr} {gs : Option Value → List Addr} {Q : Option Value → Heap → Prop} (hM : Ct l Z EL a0 true y bytes maxL none [] rm as' h sfc gs Q) (hsf : ∀ x ∈ sfc, x ∈ sf) (hf : rm.frames + 1 ≤ R.frames) (hl : W + (maxL + 11) + rm.locals ≤ R.locals)
    {g : JFrame} (hg : g.method = m) (hsize : g.locals.size = c.maxLocals) {a : Addr} {argsL rest : List Value} (has : (.ref a :: argsL).toArray = as') (hlen : ∀ sig, parseMethodDescriptor y.desc = some sig → argsL.length = sig.parameters.length) (hstack : g.stack = argsL.reverse ++ .ref a :: rest) (hW : 2 * g.monitorRoom + (rest.map fun v => v.category).sum ≤ W) (hd : decode c.code g.pc = .ok (.invokespecial index, 3)) (hc : k + rm.cells ≤ R.cells) (hn : n + rm.slots ≤ R.slots)
    (K : ∀ T' h' v, Wk p l e R s m args below meth c Z EL a0 true T' h' (k + rm.cells) (n + rm.slots) (gs v ++ sf) → h.size ≤ h'.size → Q v h' → Go p e below Φ T' { g with pc := g.pc + 3, stack := v.toList ++ rest }) : Go p e below Φ T g := by
  obtain ⟨hE, vm0, locs, k0, X, eT, r, hk, hZ, N, O, C, S⟩ := H
  obtain ⟨v, vm1, B, hWm, X', h2, gr, ⟨L, ⟨hL, O', GL, hQ⟩, el, ek, en, C'⟩, st⟩ := X.specialBackS hx hy1 (own_found r hown) (mvT hZ w1) (mvT hZ w2) (mvT hZ w4) hy (own_backW hM w4 w3 hf hl hZ hE C.1 fun x hx => S x (hsf x hx)) hg hsize (Steps.refl _) hlen hstack hW hd fun _ _ => ⟨has, eT, hc, hn⟩
  exact Go.by st (K B.U _ v (own_wide (s := s) hE X' r hk eT h2 gr hZ N C S hL O' GL el ek en C') C'.2.1 hQ)
theorem own_virtualW (H : Wk p l e R s m args below meth c Z EL a0 true T h k n sf) (hx : p.tables.exec = Jvm.exec) {own C : String} {index : Nat} {y z : MethodName} {bytes : ByteArray} {maxL : Nat} {ret : Option FieldType} (hown : s.vm.findClass own = some m.cls) (w1 : (Cond.methodLink own index y).before a0 Z = true) (w2 : (Cond.declares y).before a0 Z = true) (hnf : ∀ vm0, Z.Warmed39 vm0 → NotFace (s.setVm vm0) y) (w3 : (Cond.selects C y z).before a0 Z = true) (w5 : (Cond.instanceMethod z).before a0 Z = true) (w6 : (Cond.initialized z.cls).before a0 Z = true) (w4 : (Cond.code z bytes maxL ret).before a0 Z = true)
    (hy : y.cls ≠ "java/lang/invoke/MethodHandle" ∧ y.cls ≠ "java/lang/invoke/VarHandle") {W : Nat} {rm : Room} {as' : Array Value} {sfc : List Addr} {gs : Option Value → List Addr} {Q : Option Value → Heap → Prop} (hM : Ct l Z EL a0 true z bytes maxL ret [] rm as' h sfc gs Q) (hsf : ∀ x ∈ sfc, x ∈ sf) (hf : rm.frames + 1 ≤ R.frames) (hl : W + (maxL + 11) + rm.locals ≤ R.locals)
    {b : Addr} (E : Exa Z h b C) {g : JFrame} (hg : g.method = m) (hsize : g.locals.size = c.maxLocals) {argsL rest : List Value} (has : (.ref b :: argsL).toArray = as') (hlen : ∀ sig, parseMethodDescriptor y.desc = some sig → argsL.length = sig.parameters.length) (hstack : g.stack = argsL.reverse ++ .ref b :: rest) (hW : 2 * g.monitorRoom + (rest.map fun v => v.category).sum ≤ W) (hd : decode c.code g.pc = .ok (.invokevirtual index, 3)) (hc : k + rm.cells ≤ R.cells) (hn : n + rm.slots ≤ R.slots)
    (K : ∀ T' h' v, Wk p l e R s m args below meth c Z EL a0 true T' h' (k + rm.cells) (n + rm.slots) (gs v ++ sf) → h.size ≤ h'.size → Q v h' → Go p e below Φ T' { g with pc := g.pc + 3, stack := v.toList ++ rest }) : Go p e below Φ T g := by
  obtain ⟨hE, vm0, locs, k0, X, eT, r, hk, hZ, N, O, C, S⟩ := H
  obtain ⟨cq, kq, qa, qb, qc⟩ := isOf (s := s.setVm vm0) hZ eT E
  obtain ⟨v, vm1, B, hWm, X', h2, gr, ⟨L, ⟨hL, O', GL, hQ⟩, el, ek, en, C'⟩, st⟩ := X.virtualBackS hx (own_found r hown) (mvT hZ w1) (mvT hZ w2) (hnf vm0 hZ) (mvT hZ w3) (mvT hZ w5) hy (own_backW hM w4 w6 hf hl hZ hE C.1 fun x hx => S x (hsf x hx)) qa qc hg hsize (Steps.refl _) hlen hstack hW hd fun _ _ => ⟨has, eT, hc, hn⟩
  exact Go.by st (K B.U _ v (own_wide (s := s) hE X' r hk eT h2 gr hZ N C S hL O' GL el ek en C') C'.2.1 hQ)
theorem own_nf {C : String} {y z : MethodName} (w3 : (Cond.selects C y z).before a0 Z = true) (q : y = z) : ∀ vm0, Z.Warmed39 vm0 → NotFace (s.setVm vm0) y := fun vm0 hZ => by
  subst q; exact notFace_of_selects (args := #[]) (mvT (s := s.setVm vm0) hZ w3)
theorem own_ifaceW (H : Wk p l e R s m args below meth c Z EL a0 true T h k n sf) (hx : p.tables.exec = Jvm.exec) {own C : String} {index count : Nat} {xi y : MethodName} {bytes : ByteArray} {maxL : Nat} {ret : Option FieldType} (hown : s.vm.findClass own = some m.cls) (w1 : (Cond.methodLink own index xi).before a0 Z = true) (w2 : (Cond.declares xi).before a0 Z = true) (w3 : (Cond.interfaceMethod xi.cls xi.cls xi.name xi.desc).before a0 Z = true) (w3f : ((Cond.interfaceMethod xi.cls xi.cls xi.name xi.desc).onTables && (Cond.interfaceMethod xi.cls xi.cls xi.name xi.desc).keepsFace) = true) (w5 : (Cond.selects C xi y).before a0 Z = true) (w6 : (Cond.instanceMethod y).before a0 Z = true) (w7 : (Cond.publicMethod y).before a0 Z = true) (w8 : (Cond.unhidden C xi.name xi.desc).before a0 Z = true) (w9 : (Cond.castable C xi.cls).before a0 Z = true) (w10 : (Cond.initialized y.cls).before a0 Z = true) (w4 : (Cond.code y bytes maxL ret).before a0 Z = true)
    (hy : xi.cls ≠ "java/lang/invoke/MethodHandle" ∧ xi.cls ≠ "java/lang/invoke/VarHandle") {W : Nat} {rm : Room} {as' : Array Value} {sfc : List Addr} {gs : Option Value → List Addr} {Q : Option Value → Heap → Prop} (hM : Ct l Z EL a0 true y bytes maxL ret [] rm as' h sfc gs Q) (hsf : ∀ x ∈ sfc, x ∈ sf) (hf : rm.frames + 1 ≤ R.frames) (hl : W + (maxL + 11) + rm.locals ≤ R.locals)
    {b : Addr} (E : Exa Z h b C) {g : JFrame} (hg : g.method = m) (hsize : g.locals.size = c.maxLocals) {argsL rest : List Value} (has : (.ref b :: argsL).toArray = as') (hlen : ∀ sig, parseMethodDescriptor xi.desc = some sig → argsL.length = sig.parameters.length) (hstack : g.stack = argsL.reverse ++ .ref b :: rest) (hW : 2 * g.monitorRoom + (rest.map fun v => v.category).sum ≤ W) (hd : decode c.code g.pc = .ok (.invokeinterface index count, 5)) (hc : k + rm.cells ≤ R.cells) (hn : n + rm.slots ≤ R.slots)
    (K : ∀ T' h' v, Wk p l e R s m args below meth c Z EL a0 true T' h' (k + rm.cells) (n + rm.slots) (gs v ++ sf) → h.size ≤ h'.size → Q v h' → Go p e below Φ T' { g with pc := g.pc + 5, stack := v.toList ++ rest }) : Go p e below Φ T g := by
  obtain ⟨hE, vm0, locs, k0, X, eT, r, hk, hZ, N, O, C, S⟩ := H
  obtain ⟨cq, kq, qa, qb, qc⟩ := isOf (s := s.setVm vm0) hZ eT E
  obtain ⟨v, vm1, B, hWm, X', h2, gr, ⟨L, ⟨hL, O', GL, hQ⟩, el, ek, en, C'⟩, st⟩ := X.interfaceBackS hx (own_found r hown) (mvT hZ w1) (mvT hZ w2) (mvT hZ w3 w3f) (mvT hZ w5) (mvT hZ w6) (mvT hZ w7) (mvT hZ w8) (mvT hZ w9) hy (own_backW hM w4 w10 hf hl hZ hE C.1 fun x hx => S x (hsf x hx)) qa qb qc hg hsize (Steps.refl _) hlen hstack hW hd fun _ _ => ⟨has, eT, hc, hn⟩
  exact Go.by st (K B.U _ v (own_wide (s := s) hE X' r hk eT h2 gr hZ N C S hL O' GL el ek en C') C'.2.1 hQ)
end OwnLayer
end Jvm.Pilot.@@N@@
namespace Jvm.Pilot.@@N@@
open Jvm Jvm.ClassFile Sem Op Lib Jvm.Free Jvm.Stand Jvm.LawKit Jvm.RoadKit Bundle
section OwnStr
variable {p : Program} {l : Launch} {e : Env} {R : Room} {s : State} {m : MethodId} {args : Array Value} {below : List Frame} {meth : Method} {c : Code} {Z : State} {EL : List (String × Nat)} {a0 : Array Value} {T : State} {h h' : Heap} {k n : Nat} {sf : List Addr} {w : Bool} {Φ : State → Prop} {r : Addr} {cs : List Int32}
/-- in the heap h, r is a String of the chars cs -/
def own_str (Z : State) (h : Heap) (r : Addr) (cs : List Int32) : Prop := ∃ (t : Addr) (kb : ClassId) (cd N2 : Int32) (vs : List Value), Exa Z h r "java/lang/String" ∧ Fld Z h r "java/lang/String" "coder" "B" (.int cd) ∧ Fld Z h r "java/lang/String" "value" "[B" (.ref t) ∧ Arv Z h t kb .byte N2 vs (.int 0) ∧ StrChars.Road.CodA cs cd N2 vs ∧ ∀ c ∈ cs, ¬ c < 0 ∧ ¬ (65535 : Int32) < c
theorem own_str.exa (S : own_str Z h r cs) : Exa Z h r "java/lang/String" := by obtain ⟨t, kb, cd, N2, vs, E, -⟩ := S; exact E
theorem own_str.lt (S : own_str Z h r cs) : r < h.size := S.exa.lt
theorem own_str.ext (S : own_str Z h r cs) (E : Ext h h') : own_str Z h' r cs := by obtain ⟨t, kb, cd, N2, vs, a, b, c, d, e⟩ := S; exact ⟨t, kb, cd, N2, vs, a.ext E, b.ext E, c.ext E, d.ext E, e⟩
def own_nstr (Z : State) (a0 : Array Value) (h : Heap) (x : Addr) : Prop := ∃ C k, Exa Z h x C ∧ C ≠ "java/lang/String" ∧ (Jvm.Cond.instantiable C k).before a0 Z = true
theorem own_str.keep {ws : List Addr} (S : own_str Z h r cs) (K : Keep h h' ws) (q : ∀ x ∈ ws, own_nstr Z a0 h x) : own_str Z h' r cs := by
  obtain ⟨t, kb, cd, N2, vs, a, b, c, d, e⟩ := S
  have n1 : r ∉ ws := fun hm => by obtain ⟨C, k, E, hn, -⟩ := q _ hm; exact ne_exa E a hn rfl
  have n2 : t ∉ ws := fun hm => by
    obtain ⟨C, k, E, hn, wi⟩ := q _ hm
    obtain ⟨cl, A, -⟩ := d
    exact ne_arr E wi A rfl
  exact ⟨t, kb, cd, N2, vs, a.keep K, b.keep K n1, c.keep K n1, d.keep K n2, e⟩
theorem own_str.keep0 (S : own_str Z h r cs) (K : Keep h h' []) : own_str Z h' r cs := S.keep (a0 := #[]) K fun _ hx => nomatch hx
theorem own_str.chars (S : own_str Z h r cs) : ∀ c ∈ cs, ¬ c < 0 ∧ ¬ (65535 : Int32) < c := by obtain ⟨t, kb, cd, N2, vs, a, b, c, d, e, f⟩ := S; exact f
theorem own_up {cs : List Int32} (hp : ∀ c ∈ cs, ¬ c < 0 ∧ ¬ (255 : Int32) < c) : ∀ c ∈ cs, ¬ c < 0 ∧ ¬ (65535 : Int32) < c := fun c hc => ⟨(hp c hc).1, fun q => (hp c hc).2 (by
  have e1 : (255 : Int32).toInt = 255 := by decide
  have e2 : (65535 : Int32).toInt = 65535 := by decide
  rw [Int32.lt_iff_toInt_lt, e2] at q; rw [Int32.lt_iff_toInt_lt, e1]; omega)⟩
theorem own_str.empty {t : Addr} {kb : ClassId} (a : Exa Z h r "java/lang/String") (b : Fld Z h r "java/lang/String" "coder" "B" (.int 0)) (c : Fld Z h r "java/lang/String" "value" "[B" (.ref t)) (d : Arv Z h t kb .byte 0 [] (.int 0)) : own_str Z h r [] :=
  ⟨t, kb, 0, 0, [], a, b, c, d, StrChars.Road.codOf rfl (fun _ hq => nomatch hq), fun _ hq => nomatch hq⟩
theorem own_newS (H : Wk p l e R s m args below meth c Z EL a0 w T h k n sf) (hx : p.tables.exec = Jvm.exec) {own : String} {index : Nat} {bytes : ByteArray} {maxL : Nat} (hown : s.vm.findClass own = some m.cls) (w1 : (Jvm.Cond.methodLink own index (⟨"java/lang/String", "<init>", "([C)V"⟩ : MethodName)).before a0 Z = true) (w2 : (Jvm.Cond.instanceMethod (⟨"java/lang/String", "<init>", "([C)V"⟩ : MethodName)).before a0 Z = true) (w4 : (Jvm.Cond.code (⟨"java/lang/String", "<init>", "([C)V"⟩ : MethodName) bytes maxL none).before a0 Z = true)
    (hws : ∀ d ∈ StrChars.Road.words, d.before a0 Z = true) {kI : Nat} (wi : (Jvm.Cond.instantiable "java/lang/String" kI).before a0 Z = true) {x b : Addr} {kC : ClassId} {N z : Int32} {d v0 c0 : Value} {ln W : Nat} (Ex : Exa Z h x "java/lang/String") (Fv : Fld Z h x "java/lang/String" "value" "[B" v0) (Fc : Fld Z h x "java/lang/String" "coder" "B" c0) (V : Arv Z h b kC .char N (cs.map Value.int) d) (Sc : Sta Z Z.heap "java/lang/String" "COMPACT_STRINGS" "Z" (.int z)) (hz : ¬ z = 0)
    (hn' : cs.length = ln) (hN : N = Int32.ofNat ln) (l0 : 0 < ln) (l2 : ln ≤ 4000) (hp : ∀ c ∈ cs, ¬ c < 0 ∧ ¬ (255 : Int32) < c) (hfr : 4 ≤ R.frames) (hlo : W + 65 ≤ R.locals) (hxs : Z.heap.size ≤ x) (hxm : x ∈ sf)
    {g : JFrame} (hg : g.method = m) (hsize : g.locals.size = c.maxLocals) {rest : List Value} (hstack : g.stack = .ref b :: .ref x :: rest) (hW : 2 * g.monitorRoom + (rest.map fun v => v.category).sum ≤ W) (hd : decode c.code g.pc = .ok (.invokespecial index, 3)) (hc : k + 1 ≤ R.cells) (hn : n + ln ≤ R.slots)
    (K : ∀ T' h', Wk p l e R s m args below meth c Z EL a0 w T' h' (k + 1) (n + ln) sf → Keep h h' [x] → own_str Z h' x cs → Go p e below Φ T' { g with pc := g.pc + 3, stack := rest }) : Go p e below Φ T g := by
  have O := H.old
  refine own_specialB H hx (y := (⟨"java/lang/String", "<init>", "([C)V"⟩ : MethodName)) rfl hown w1 w2 w4 (by decide) (W := W) (kc := 1) (kn := ln) (as' := #[.ref x, .ref b]) (fun v h' L => StrChars.Road.QV Z x N (cs.map fun c => c.toInt8.toInt32) h Z.heap.size v h' L)
    (fun vm0 hZ _ => StrChars.Road.backV (s := s.setVm vm0) hZ hws wi hxs O.1 Ex Fv Fc V (Sc.ext O) hz hn' hN l0 l2 hp rfl hfr hlo) (ws := [x]) (fun v h' L q => ⟨q.2.1, q.2.2.1⟩) (allS ⟨hxs, own_mem hxm⟩ all0) hg hsize (a := x) (argsL := [.ref b]) (rest := rest) rfl (lenOf (by decide : parseMethodDescriptor "([C)V" = some ⟨[.array .char], none⟩) rfl) hstack hW hd hc hn ?_
  intro T' h' v L H' q
  obtain ⟨rfl, -, Kp, E', F', t, kb, -, -, -, Fv', V'⟩ := q
  subst hN
  exact K T' h' H' Kp ⟨t, kb, 0, _, _, E', F', Fv', V', StrChars.Road.codOf hn' fun c hc => (hp c hc).2, own_up hp⟩
end OwnStr
end Jvm.Pilot.@@N@@
namespace Jvm.Pilot.@@N@@
open Jvm Jvm.ClassFile Sem Op Lib Jvm.Free Jvm.Stand Jvm.LawKit Jvm.RoadKit Bundle
section OwnStrLen
variable {p : Program} {l : Launch} {e : Env} {R : Room} {s : State} {m : MethodId} {args : Array Value} {below : List Frame} {meth : Method} {c : Code} {Z : State} {EL : List (String × Nat)} {a0 : Array Value} {T : State} {h h' : Heap} {k n : Nat} {sf : List Addr} {w : Bool} {Φ : State → Prop} {r : Addr} {cs : List Int32}
theorem own_lenS (H : Wk p l e R s m args below meth c Z EL a0 w T h k n sf) (hx : p.tables.exec = Jvm.exec) {own : String} {index : Nat} (hown : s.vm.findClass own = some m.cls) (w1 : (Jvm.Cond.methodLink own index (⟨"java/lang/String", "length", "()I"⟩ : MethodName)).before a0 Z = true) (w2 : (Jvm.Cond.declares (⟨"java/lang/String", "length", "()I"⟩ : MethodName)).before a0 Z = true) (w3 : (Jvm.Cond.selects "java/lang/String" (⟨"java/lang/String", "length", "()I"⟩ : MethodName) (⟨"java/lang/String", "length", "()I"⟩ : MethodName)).before a0 Z = true) (w4 : (Jvm.Cond.instanceMethod (⟨"java/lang/String", "length", "()I"⟩ : MethodName)).before a0 Z = true)
    (hws : ∀ d ∈ StrChars.Road.wordsLen, d.before a0 Z = true) {kI : Nat} (wi : (Jvm.Cond.instantiable "java/lang/String" kI).before a0 Z = true) {x : Addr} {z : Int32} {W : Nat} (Sx : own_str Z h x cs) (lx : cs.length ≤ 4000) (Sc : Sta Z Z.heap "java/lang/String" "COMPACT_STRINGS" "Z" (.int z)) (hz : ¬ z = 0) (hfr : 2 ≤ R.frames) (hlo : W + 25 ≤ R.locals)
    {g : JFrame} (hg : g.method = m) (hsize : g.locals.size = c.maxLocals) {rest : List Value} (hstack : g.stack = .ref x :: rest) (hW : 2 * g.monitorRoom + (rest.map fun v => v.category).sum ≤ W) (hd : decode c.code g.pc = .ok (.invokevirtual index, 3)) (hc : k + 0 ≤ R.cells) (hn : n + 0 ≤ R.slots)
    (K : ∀ T', Wk p l e R s m args below meth c Z EL a0 w T' h k n sf → Go p e below Φ T' { g with pc := g.pc + 3, stack := .int (Int32.ofNat cs.length) :: rest }) : Go p e below Φ T g := by
  have O := H.old
  have Ex := Sx.exa
  obtain ⟨t, kb, cd, N2, vs, a, b, c1, d, e1, f⟩ := Sx
  refine own_virtualB H hx (y := (⟨"java/lang/String", "length", "()I"⟩ : MethodName)) (z := (⟨"java/lang/String", "length", "()I"⟩ : MethodName)) hown w1 w2 w3 rfl w4 (by decide) (W := W) (kc := 0) (kn := 0) (as' := #[.ref x]) (fun v h' L => v = some (.int (Int32.ofNat cs.length)) ∧ L = [] ∧ h' = h)
    (fun vm0 hZ _ => StrChars.Road.lenW (s := s.setVm vm0) hZ hws wi a c1 b d e1 f (Sc.ext O) hz lx hfr hlo) (ws := []) (fun v h' L q => ⟨q.2.1 ▸ Fr.nil _, q.2.2 ▸ Keep.refl _ _⟩) all0 Ex hg hsize (argsL := []) (rest := rest) rfl (lenOf (by decide : parseMethodDescriptor "()I" = some ⟨[], some .int⟩) rfl) hstack hW hd hc hn ?_
  intro T' h' v L H' q
  obtain ⟨rfl, rfl, rfl⟩ := q
  exact K T' H'
end OwnStrLen
end Jvm.Pilot.@@N@@
namespace Jvm.Pilot.@@N@@
open Jvm Jvm.ClassFile Sem Op Lib Jvm.Free Jvm.Stand Jvm.LawKit Jvm.RoadKit Bundle
section OwnStrEm
variable {p : Program} {l : Launch} {e : Env} {R : Room} {s : State} {m : MethodId} {args : Array Value} {below : List Frame} {meth : Method} {c : Code} {Z : State} {EL : List (String × Nat)} {a0 : Array Value} {T : State} {h h' : Heap} {k n : Nat} {sf : List Addr} {w : Bool} {Φ : State → Prop} {r : Addr} {cs : List Int32}
theorem own_emS (H : Wk p l e R s m args below meth c Z EL a0 w T h k n sf) (hx : p.tables.exec = Jvm.exec) {own : String} {index : Nat} (hown : s.vm.findClass own = some m.cls) (w1 : (Jvm.Cond.methodLink own index (⟨"java/lang/String", "isEmpty", "()Z"⟩ : MethodName)).before a0 Z = true) (w2 : (Jvm.Cond.declares (⟨"java/lang/String", "isEmpty", "()Z"⟩ : MethodName)).before a0 Z = true) (w3 : (Jvm.Cond.selects "java/lang/String" (⟨"java/lang/String", "isEmpty", "()Z"⟩ : MethodName) (⟨"java/lang/String", "isEmpty", "()Z"⟩ : MethodName)).before a0 Z = true) (w4 : (Jvm.Cond.instanceMethod (⟨"java/lang/String", "isEmpty", "()Z"⟩ : MethodName)).before a0 Z = true)
    (hws : ∀ d ∈ StrChars.Road.wordsEmp, d.before a0 Z = true) {kI : Nat} (wi : (Jvm.Cond.instantiable "java/lang/String" kI).before a0 Z = true) {x : Addr} {W : Nat} (Sx : own_str Z h x cs) (lx : cs.length ≤ 4000) (hfr : 1 ≤ R.frames) (hlo : W + 12 ≤ R.locals)
    {g : JFrame} (hg : g.method = m) (hsize : g.locals.size = c.maxLocals) {rest : List Value} (hstack : g.stack = .ref x :: rest) (hW : 2 * g.monitorRoom + (rest.map fun v => v.category).sum ≤ W) (hd : decode c.code g.pc = .ok (.invokevirtual index, 3)) (hc : k + 0 ≤ R.cells) (hn : n + 0 ≤ R.slots)
    (K : ∀ T', Wk p l e R s m args below meth c Z EL a0 w T' h k n sf → Go p e below Φ T' { g with pc := g.pc + 3, stack := .int (if cs.length = 0 then 1 else 0) :: rest }) : Go p e below Φ T g := by
  have O := H.old
  have Ex := Sx.exa
  obtain ⟨t, kb, cd, N2, vs, a, b, c1, d, e1, f⟩ := Sx
  refine own_virtualB H hx (y := (⟨"java/lang/String", "isEmpty", "()Z"⟩ : MethodName)) (z := (⟨"java/lang/String", "isEmpty", "()Z"⟩ : MethodName)) hown w1 w2 w3 rfl w4 (by decide) (W := W) (kc := 0) (kn := 0) (as' := #[.ref x]) (fun v h' L => v = some (.int (if cs.length = 0 then 1 else 0)) ∧ L = [] ∧ h' = h)
    (fun vm0 hZ _ => StrChars.Road.empW (s := s.setVm vm0) hZ hws wi a c1 b d e1 f lx hfr hlo) (ws := []) (fun v h' L q => ⟨q.2.1 ▸ Fr.nil _, q.2.2 ▸ Keep.refl _ _⟩) all0 Ex hg hsize (argsL := []) (rest := rest) rfl (lenOf (by decide : parseMethodDescriptor "()Z" = some ⟨[], some .boolean⟩) rfl) hstack hW hd hc hn ?_
  intro T' h' v L H' q
  obtain ⟨rfl, rfl, rfl⟩ := q
  exact K T' H'
end OwnStrEm
end Jvm.Pilot.@@N@@
namespace Jvm.Pilot.@@N@@
open Jvm Jvm.ClassFile Sem Op Lib Jvm.Free Jvm.Stand Jvm.LawKit Jvm.RoadKit Bundle Jvm.Pilot.@@N@@.Jvm.D
theorem ef_rm_ul (m : MethodId) (x0 : Addr) : entryFrame m #[(.ref x0)] 1 = mkF m 0 #[.val (.ref x0)] [] := by first | (simp [entryFrame, mkF, argsToLocals, Value.category]; done) | rfl
theorem pn_0 : plainName "java/lang/StringUTF16" = true := by first | (simp [plainName, overriddenIn]; done) | decide +kernel
theorem d_jdk_52_6_0 : decode jdk_52_method_6_code 0 = .ok (.aload_n 0, 1) := by decide +kernel
theorem d_jdk_52_6_1 : decode jdk_52_method_6_code 1 = .ok (.arraylength, 1) := by decide +kernel
theorem d_jdk_52_6_2 : decode jdk_52_method_6_code 2 = .ok (.iconst 1, 1) := by decide +kernel
theorem d_jdk_52_6_3 : decode jdk_52_method_6_code 3 = .ok (.ishr, 1) := by decide +kernel
theorem d_jdk_52_6_4 : decode jdk_52_method_6_code 4 = .ok (.ireturn, 1) := by decide +kernel
theorem ef_rm_put (m : MethodId) (x0 : Addr) (x1 : Int32) (x2 : Int32) : entryFrame m #[(.ref x0), (.int x1), (.int x2)] 3 = mkF m 0 #[.val (.ref x0), .val (.int x1), .val (.int x2)] [] := by first | (simp [entryFrame, mkF, argsToLocals, Value.category]; done) | rfl
theorem d_jdk_52_4_0 : decode jdk_52_method_4_code 0 = .ok (.getstatic 44, 3) := by decide +kernel
theorem d_jdk_52_4_3 : decode jdk_52_method_4_code 3 = .ok (.ifCond .ne 25, 3) := by decide +kernel
theorem d_jdk_52_4_28 : decode jdk_52_method_4_code 28 = .ok (.iload_n 1, 1) := by decide +kernel
theorem d_jdk_52_4_29 : decode jdk_52_method_4_code 29 = .ok (.iconst 1, 1) := by decide +kernel
theorem d_jdk_52_4_30 : decode jdk_52_method_4_code 30 = .ok (.ishl, 1) := by decide +kernel
theorem d_jdk_52_4_31 : decode jdk_52_method_4_code 31 = .ok (.istore_n 1, 1) := by decide +kernel
theorem d_jdk_52_4_32 : decode jdk_52_method_4_code 32 = .ok (.aload_n 0, 1) := by decide +kernel
theorem d_jdk_52_4_33 : decode jdk_52_method_4_code 33 = .ok (.iload_n 1, 1) := by decide +kernel
theorem d_jdk_52_4_34 : decode jdk_52_method_4_code 34 = .ok (.iinc 1 1, 3) := by decide +kernel
theorem d_jdk_52_4_37 : decode jdk_52_method_4_code 37 = .ok (.iload_n 2, 1) := by decide +kernel
theorem d_jdk_52_4_38 : decode jdk_52_method_4_code 38 = .ok (.getstatic 59, 3) := by decide +kernel
theorem d_jdk_52_4_41 : decode jdk_52_method_4_code 41 = .ok (.ishr, 1) := by decide +kernel
theorem d_jdk_52_4_42 : decode jdk_52_method_4_code 42 = .ok (.i2b, 1) := by decide +kernel
theorem d_jdk_52_4_43 : decode jdk_52_method_4_code 43 = .ok (.bastore, 1) := by decide +kernel
theorem d_jdk_52_4_44 : decode jdk_52_method_4_code 44 = .ok (.aload_n 0, 1) := by decide +kernel
theorem d_jdk_52_4_45 : decode jdk_52_method_4_code 45 = .ok (.iload_n 1, 1) := by decide +kernel
theorem d_jdk_52_4_46 : decode jdk_52_method_4_code 46 = .ok (.iload_n 2, 1) := by decide +kernel
theorem d_jdk_52_4_47 : decode jdk_52_method_4_code 47 = .ok (.getstatic 63, 3) := by decide +kernel
theorem d_jdk_52_4_50 : decode jdk_52_method_4_code 50 = .ok (.ishr, 1) := by decide +kernel
theorem d_jdk_52_4_51 : decode jdk_52_method_4_code 51 = .ok (.i2b, 1) := by decide +kernel
theorem d_jdk_52_4_52 : decode jdk_52_method_4_code 52 = .ok (.bastore, 1) := by decide +kernel
theorem d_jdk_52_4_53 : decode jdk_52_method_4_code 53 = .ok (.return_, 1) := by decide +kernel
theorem ef_rm_get (m : MethodId) (x0 : Addr) (x1 : Int32) : entryFrame m #[(.ref x0), (.int x1)] 2 = mkF m 0 #[.val (.ref x0), .val (.int x1)] [] := by first | (simp [entryFrame, mkF, argsToLocals, Value.category]; done) | rfl
theorem d_jdk_52_5_0 : decode jdk_52_method_5_code 0 = .ok (.getstatic 44, 3) := by decide +kernel
theorem d_jdk_52_5_3 : decode jdk_52_method_5_code 3 = .ok (.ifCond .ne 25, 3) := by decide +kernel
theorem d_jdk_52_5_28 : decode jdk_52_method_5_code 28 = .ok (.iload_n 1, 1) := by decide +kernel
theorem d_jdk_52_5_29 : decode jdk_52_method_5_code 29 = .ok (.iconst 1, 1) := by decide +kernel
theorem d_jdk_52_5_30 : decode jdk_52_method_5_code 30 = .ok (.ishl, 1) := by decide +kernel
theorem d_jdk_52_5_31 : decode jdk_52_method_5_code 31 = .ok (.istore_n 1, 1) := by decide +kernel
theorem d_jdk_52_5_32 : decode jdk_52_method_5_code 32 = .ok (.aload_n 0, 1) := by decide +kernel
theorem d_jdk_52_5_33 : decode jdk_52_method_5_code 33 = .ok (.iload_n 1, 1) := by decide +kernel
theorem d_jdk_52_5_34 : decode jdk_52_method_5_code 34 = .ok (.iinc 1 1, 3) := by decide +kernel
theorem d_jdk_52_5_37 : decode jdk_52_method_5_code 37 = .ok (.baload, 1) := by decide +kernel
theorem d_jdk_52_5_38 : decode jdk_52_method_5_code 38 = .ok (.sipush 255, 3) := by decide +kernel
theorem d_jdk_52_5_41 : decode jdk_52_method_5_code 41 = .ok (.iand, 1) := by decide +kernel
theorem d_jdk_52_5_42 : decode jdk_52_method_5_code 42 = .ok (.getstatic 59, 3) := by decide +kernel
theorem d_jdk_52_5_45 : decode jdk_52_method_5_code 45 = .ok (.ishl, 1) := by decide +kernel
theorem d_jdk_52_5_46 : decode jdk_52_method_5_code 46 = .ok (.aload_n 0, 1) := by decide +kernel
theorem d_jdk_52_5_47 : decode jdk_52_method_5_code 47 = .ok (.iload_n 1, 1) := by decide +kernel
theorem d_jdk_52_5_48 : decode jdk_52_method_5_code 48 = .ok (.baload, 1) := by decide +kernel
theorem d_jdk_52_5_49 : decode jdk_52_method_5_code 49 = .ok (.sipush 255, 3) := by decide +kernel
theorem d_jdk_52_5_52 : decode jdk_52_method_5_code 52 = .ok (.iand, 1) := by decide +kernel
theorem d_jdk_52_5_53 : decode jdk_52_method_5_code 53 = .ok (.getstatic 63, 3) := by decide +kernel
theorem d_jdk_52_5_56 : decode jdk_52_method_5_code 56 = .ok (.ishl, 1) := by decide +kernel
theorem d_jdk_52_5_57 : decode jdk_52_method_5_code 57 = .ok (.ior, 1) := by decide +kernel
theorem d_jdk_52_5_58 : decode jdk_52_method_5_code 58 = .ok (.i2c, 1) := by decide +kernel
theorem d_jdk_52_5_59 : decode jdk_52_method_5_code 59 = .ok (.ireturn, 1) := by decide +kernel
theorem ef_rm_nbl (m : MethodId) (x0 : Int32) : entryFrame m #[(.int x0)] 1 = mkF m 0 #[.val (.int x0)] [] := by first | (simp [entryFrame, mkF, argsToLocals, Value.category]; done) | rfl
theorem d_jdk_52_3_0 : decode jdk_52_method_3_code 0 = .ok (.iload_n 0, 1) := by decide +kernel
theorem d_jdk_52_3_1 : decode jdk_52_method_3_code 1 = .ok (.ifCond .ge 11, 3) := by decide +kernel
theorem d_jdk_52_3_12 : decode jdk_52_method_3_code 12 = .ok (.iload_n 0, 1) := by decide +kernel
theorem d_jdk_52_3_13 : decode jdk_52_method_3_code 13 = .ok (.ldc 20, 2) := by decide +kernel
theorem d_jdk_52_3_15 : decode jdk_52_method_3_code 15 = .ok (.if_icmp .lt 40, 3) := by decide +kernel
theorem d_jdk_52_3_55 : decode jdk_52_method_3_code 55 = .ok (.iload_n 0, 1) := by decide +kernel
theorem d_jdk_52_3_56 : decode jdk_52_method_3_code 56 = .ok (.iconst 1, 1) := by decide +kernel
theorem d_jdk_52_3_57 : decode jdk_52_method_3_code 57 = .ok (.ishl, 1) := by decide +kernel
theorem d_jdk_52_3_58 : decode jdk_52_method_3_code 58 = .ok (.ireturn, 1) := by decide +kernel
theorem ef_rm_nbf (m : MethodId) (x0 : Int32) : entryFrame m #[(.int x0)] 1 = mkF m 0 #[.val (.int x0)] [] := by first | (simp [entryFrame, mkF, argsToLocals, Value.category]; done) | rfl
theorem d_jdk_52_2_0 : decode jdk_52_method_2_code 0 = .ok (.iload_n 0, 1) := by decide +kernel
theorem d_jdk_52_2_1 : decode jdk_52_method_2_code 1 = .ok (.invokestatic 11, 3) := by decide +kernel
theorem pd_0 : parseMethodDescriptor "(I)I" = some ⟨[.int], some .int⟩ := by decide +kernel
theorem d_jdk_52_2_4 : decode jdk_52_method_2_code 4 = .ok (.newarray .byte, 2) := by decide +kernel
theorem d_jdk_52_2_6 : decode jdk_52_method_2_code 6 = .ok (.areturn, 1) := by decide +kernel
theorem ef_rm_tob (m : MethodId) (x0 : Addr) (x1 : Int32) (x2 : Int32) : entryFrame m #[(.ref x0), (.int x1), (.int x2)] 5 = mkF m 0 #[.val (.ref x0), .val (.int x1), .val (.int x2), .unset, .unset] [] := by first | (simp [entryFrame, mkF, argsToLocals, Value.category]; done) | rfl
theorem d_jdk_52_14_0 : decode jdk_52_method_14_code 0 = .ok (.iload_n 2, 1) := by decide +kernel
theorem d_jdk_52_14_1 : decode jdk_52_method_14_code 1 = .ok (.invokestatic 107, 3) := by decide +kernel
theorem pd_1 : parseMethodDescriptor "(I)[B" = some ⟨[.int], some (.array .byte)⟩ := by decide +kernel
theorem d_jdk_52_14_4 : decode jdk_52_method_14_code 4 = .ok (.astore_n 3, 1) := by decide +kernel
theorem d_jdk_52_14_8 : decode jdk_52_method_14_code 8 = .ok (.iload 4, 2) := by decide +kernel
theorem d_jdk_52_14_10 : decode jdk_52_method_14_code 10 = .ok (.iload_n 2, 1) := by decide +kernel
theorem d_jdk_52_14_11 : decode jdk_52_method_14_code 11 = .ok (.if_icmp .ge 21, 3) := by decide +kernel
theorem d_jdk_52_14_32 : decode jdk_52_method_14_code 32 = .ok (.aload_n 3, 1) := by decide +kernel
theorem d_jdk_52_14_33 : decode jdk_52_method_14_code 33 = .ok (.areturn, 1) := by decide +kernel
theorem d_jdk_52_14_14 : decode jdk_52_method_14_code 14 = .ok (.aload_n 3, 1) := by decide +kernel
theorem d_jdk_52_14_15 : decode jdk_52_method_14_code 15 = .ok (.iload 4, 2) := by decide +kernel
theorem d_jdk_52_14_17 : decode jdk_52_method_14_code 17 = .ok (.aload_n 0, 1) := by decide +kernel
theorem d_jdk_52_14_18 : decode jdk_52_method_14_code 18 = .ok (.iload_n 1, 1) := by decide +kernel
theorem d_jdk_52_14_19 : decode jdk_52_method_14_code 19 = .ok (.caload, 1) := by decide +kernel
theorem d_jdk_52_14_20 : decode jdk_52_method_14_code 20 = .ok (.invokestatic 111, 3) := by decide +kernel
theorem pd_2 : parseMethodDescriptor "([BII)V" = some ⟨[(.array .byte), .int, .int], none⟩ := by decide +kernel
theorem d_jdk_52_14_23 : decode jdk_52_method_14_code 23 = .ok (.iinc 1 1, 3) := by decide +kernel
theorem d_jdk_52_14_26 : decode jdk_52_method_14_code 26 = .ok (.iinc 4 1, 3) := by decide +kernel
theorem d_jdk_52_14_29 : decode jdk_52_method_14_code 29 = .ok (.goto (-21), 3) := by decide +kernel
theorem d_jdk_52_14_5 : decode jdk_52_method_14_code 5 = .ok (.iconst 0, 1) := by decide +kernel
theorem d_jdk_52_14_6 : decode jdk_52_method_14_code 6 = .ok (.istore 4, 2) := by decide +kernel
theorem ef_rm_cp2 (m : MethodId) (x0 : Addr) (x1 : Int32) (x2 : Addr) (x3 : Int32) (x4 : Int32) : entryFrame m #[(.ref x0), (.int x1), (.ref x2), (.int x3), (.int x4)] 7 = mkF m 0 #[.val (.ref x0), .val (.int x1), .val (.ref x2), .val (.int x3), .val (.int x4), .unset, .unset] [] := by first | (simp [entryFrame, mkF, argsToLocals, Value.category]; done) | rfl
theorem d_jdk_52_21_3 : decode jdk_52_method_21_code 3 = .ok (.iload 5, 2) := by decide +kernel
theorem d_jdk_52_21_5 : decode jdk_52_method_21_code 5 = .ok (.iload 4, 2) := by decide +kernel
theorem d_jdk_52_21_7 : decode jdk_52_method_21_code 7 = .ok (.if_icmp .ge 37, 3) := by decide +kernel
theorem d_jdk_52_21_44 : decode jdk_52_method_21_code 44 = .ok (.iload 4, 2) := by decide +kernel
theorem d_jdk_52_21_46 : decode jdk_52_method_21_code 46 = .ok (.ireturn, 1) := by decide +kernel
theorem d_jdk_52_21_10 : decode jdk_52_method_21_code 10 = .ok (.aload_n 0, 1) := by decide +kernel
theorem d_jdk_52_21_11 : decode jdk_52_method_21_code 11 = .ok (.iload_n 1, 1) := by decide +kernel
theorem d_jdk_52_21_12 : decode jdk_52_method_21_code 12 = .ok (.caload, 1) := by decide +kernel
theorem d_jdk_52_21_13 : decode jdk_52_method_21_code 13 = .ok (.istore 6, 2) := by decide +kernel
theorem d_jdk_52_21_15 : decode jdk_52_method_21_code 15 = .ok (.iload 6, 2) := by decide +kernel
theorem d_jdk_52_21_17 : decode jdk_52_method_21_code 17 = .ok (.sipush 255, 3) := by decide +kernel
theorem d_jdk_52_21_20 : decode jdk_52_method_21_code 20 = .ok (.if_icmp .le 6, 3) := by decide +kernel
theorem d_jdk_52_21_23 : decode jdk_52_method_21_code 23 = .ok (.iload 5, 2) := by decide +kernel
theorem d_jdk_52_21_25 : decode jdk_52_method_21_code 25 = .ok (.ireturn, 1) := by decide +kernel
theorem d_jdk_52_21_26 : decode jdk_52_method_21_code 26 = .ok (.aload_n 2, 1) := by decide +kernel
theorem d_jdk_52_21_27 : decode jdk_52_method_21_code 27 = .ok (.iload_n 3, 1) := by decide +kernel
theorem d_jdk_52_21_28 : decode jdk_52_method_21_code 28 = .ok (.iload 6, 2) := by decide +kernel
theorem d_jdk_52_21_30 : decode jdk_52_method_21_code 30 = .ok (.i2b, 1) := by decide +kernel
theorem d_jdk_52_21_31 : decode jdk_52_method_21_code 31 = .ok (.bastore, 1) := by decide +kernel
theorem d_jdk_52_21_32 : decode jdk_52_method_21_code 32 = .ok (.iinc 1 1, 3) := by decide +kernel
theorem d_jdk_52_21_35 : decode jdk_52_method_21_code 35 = .ok (.iinc 3 1, 3) := by decide +kernel
theorem d_jdk_52_21_38 : decode jdk_52_method_21_code 38 = .ok (.iinc 5 1, 3) := by decide +kernel
theorem d_jdk_52_21_41 : decode jdk_52_method_21_code 41 = .ok (.goto (-38), 3) := by decide +kernel
theorem d_jdk_52_21_0 : decode jdk_52_method_21_code 0 = .ok (.iconst 0, 1) := by decide +kernel
theorem d_jdk_52_21_1 : decode jdk_52_method_21_code 1 = .ok (.istore 5, 2) := by decide +kernel
theorem ef_rm_cmp (m : MethodId) (x0 : Addr) (x1 : Int32) (x2 : Int32) : entryFrame m #[(.ref x0), (.int x1), (.int x2)] 6 = mkF m 0 #[.val (.ref x0), .val (.int x1), .val (.int x2), .unset, .unset, .unset] [] := by first | (simp [entryFrame, mkF, argsToLocals, Value.category]; done) | rfl
theorem d_jdk_52_16_0 : decode jdk_52_method_16_code 0 = .ok (.iload_n 2, 1) := by decide +kernel
theorem d_jdk_52_16_1 : decode jdk_52_method_16_code 1 = .ok (.newarray .byte, 2) := by decide +kernel
theorem d_jdk_52_16_3 : decode jdk_52_method_16_code 3 = .ok (.astore_n 3, 1) := by decide +kernel
theorem d_jdk_52_16_4 : decode jdk_52_method_16_code 4 = .ok (.aload_n 0, 1) := by decide +kernel
theorem d_jdk_52_16_5 : decode jdk_52_method_16_code 5 = .ok (.iload_n 1, 1) := by decide +kernel
theorem d_jdk_52_16_6 : decode jdk_52_method_16_code 6 = .ok (.aload_n 3, 1) := by decide +kernel
theorem d_jdk_52_16_7 : decode jdk_52_method_16_code 7 = .ok (.iconst 0, 1) := by decide +kernel
theorem d_jdk_52_16_8 : decode jdk_52_method_16_code 8 = .ok (.iload_n 2, 1) := by decide +kernel
theorem d_jdk_52_16_9 : decode jdk_52_method_16_code 9 = .ok (.invokestatic 115, 3) := by decide +kernel
theorem pd_3 : parseMethodDescriptor "([CI[BII)I" = some ⟨[(.array .char), .int, (.array .byte), .int, .int], some .int⟩ := by decide +kernel
theorem d_jdk_52_16_12 : decode jdk_52_method_16_code 12 = .ok (.istore 4, 2) := by decide +kernel
theorem d_jdk_52_16_14 : decode jdk_52_method_16_code 14 = .ok (.iload 4, 2) := by decide +kernel
theorem d_jdk_52_16_16 : decode jdk_52_method_16_code 16 = .ok (.iload_n 2, 1) := by decide +kernel
theorem d_jdk_52_16_17 : decode jdk_52_method_16_code 17 = .ok (.if_icmp .eq 40, 3) := by decide +kernel
theorem d_jdk_52_16_57 : decode jdk_52_method_16_code 57 = .ok (.aload_n 3, 1) := by decide +kernel
theorem d_jdk_52_16_58 : decode jdk_52_method_16_code 58 = .ok (.areturn, 1) := by decide +kernel
theorem d_jdk_52_16_20 : decode jdk_52_method_16_code 20 = .ok (.aload_n 0, 1) := by decide +kernel
theorem d_jdk_52_16_21 : decode jdk_52_method_16_code 21 = .ok (.iload_n 1, 1) := by decide +kernel
theorem d_jdk_52_16_22 : decode jdk_52_method_16_code 22 = .ok (.iload_n 2, 1) := by decide +kernel
theorem d_jdk_52_16_23 : decode jdk_52_method_16_code 23 = .ok (.invokestatic 119, 3) := by decide +kernel
theorem pd_4 : parseMethodDescriptor "([CII)[B" = some ⟨[(.array .char), .int, .int], some (.array .byte)⟩ := by decide +kernel
theorem d_jdk_52_16_26 : decode jdk_52_method_16_code 26 = .ok (.astore 5, 2) := by decide +kernel
theorem d_jdk_52_16_28 : decode jdk_52_method_16_code 28 = .ok (.aload 5, 2) := by decide +kernel
theorem d_jdk_52_16_30 : decode jdk_52_method_16_code 30 = .ok (.iload 4, 2) := by decide +kernel
theorem d_jdk_52_16_32 : decode jdk_52_method_16_code 32 = .ok (.invokestatic 71, 3) := by decide +kernel
theorem pd_5 : parseMethodDescriptor "([BI)C" = some ⟨[(.array .byte), .int], some .char⟩ := by decide +kernel
theorem d_jdk_52_16_35 : decode jdk_52_method_16_code 35 = .ok (.sipush 255, 3) := by decide +kernel
theorem d_jdk_52_16_38 : decode jdk_52_method_16_code 38 = .ok (.if_icmp .gt 16, 3) := by decide +kernel
theorem d_jdk_52_16_54 : decode jdk_52_method_16_code 54 = .ok (.aload 5, 2) := by decide +kernel
theorem d_jdk_52_16_56 : decode jdk_52_method_16_code 56 = .ok (.areturn, 1) := by decide +kernel
theorem ef_rm_cfl (m : MethodId) (x0 : Addr) (x1 : Int32) : entryFrame m #[(.ref x0), (.int x1)] 2 = mkF m 0 #[.val (.ref x0), .val (.int x1)] [] := by first | (simp [entryFrame, mkF, argsToLocals, Value.category]; done) | rfl
theorem d_jdk_52_15_0 : decode jdk_52_method_15_code 0 = .ok (.iload_n 1, 1) := by decide +kernel
theorem d_jdk_52_15_1 : decode jdk_52_method_15_code 1 = .ok (.aload_n 0, 1) := by decide +kernel
theorem d_jdk_52_15_2 : decode jdk_52_method_15_code 2 = .ok (.arraylength, 1) := by decide +kernel
theorem d_jdk_52_15_3 : decode jdk_52_method_15_code 3 = .ok (.isub, 1) := by decide +kernel
theorem d_jdk_52_15_4 : decode jdk_52_method_15_code 4 = .ok (.bipush 31, 2) := by decide +kernel
theorem d_jdk_52_15_6 : decode jdk_52_method_15_code 6 = .ok (.iushr, 1) := by decide +kernel
theorem d_jdk_52_15_7 : decode jdk_52_method_15_code 7 = .ok (.i2b, 1) := by decide +kernel
theorem d_jdk_52_15_8 : decode jdk_52_method_15_code 8 = .ok (.ireturn, 1) := by decide +kernel
theorem ef_rm_s2 (m : MethodId) (x0 : Addr) (x1 : Addr) (x2 : Int32) (x3 : Int32) : entryFrame m #[(.ref x0), (.ref x1), (.int x2), (.int x3), .null] 6 = mkF m 0 #[.val (.ref x0), .val (.ref x1), .val (.int x2), .val (.int x3), .val .null, .unset] [] := by first | (simp [entryFrame, mkF, argsToLocals, Value.category]; done) | rfl
theorem pn_1 : plainName "java/lang/String" = true := by first | (simp [plainName, overriddenIn]; done) | decide +kernel
theorem d_jdk_42_149_0 : decode jdk_42_method_149_code 0 = .ok (.aload_n 0, 1) := by decide +kernel
theorem d_jdk_42_149_1 : decode jdk_42_method_149_code 1 = .ok (.invokespecial 1, 3) := by decide +kernel
theorem d_jdk_42_149_4 : decode jdk_42_method_149_code 4 = .ok (.iload_n 3, 1) := by decide +kernel
theorem d_jdk_42_149_5 : decode jdk_42_method_149_code 5 = .ok (.ifCond .ne 22, 3) := by decide +kernel
theorem d_jdk_42_149_8 : decode jdk_42_method_149_code 8 = .ok (.aload_n 0, 1) := by decide +kernel
theorem d_jdk_42_149_9 : decode jdk_42_method_149_code 9 = .ok (.ldc 7, 2) := by decide +kernel
theorem d_jdk_42_149_11 : decode jdk_42_method_149_code 11 = .ok (.getfield 9, 3) := by decide +kernel
theorem d_jdk_42_149_14 : decode jdk_42_method_149_code 14 = .ok (.putfield 9, 3) := by decide +kernel
theorem d_jdk_42_149_17 : decode jdk_42_method_149_code 17 = .ok (.aload_n 0, 1) := by decide +kernel
theorem d_jdk_42_149_18 : decode jdk_42_method_149_code 18 = .ok (.ldc 7, 2) := by decide +kernel
theorem d_jdk_42_149_20 : decode jdk_42_method_149_code 20 = .ok (.getfield 15, 3) := by decide +kernel
theorem d_jdk_42_149_23 : decode jdk_42_method_149_code 23 = .ok (.putfield 15, 3) := by decide +kernel
theorem d_jdk_42_149_26 : decode jdk_42_method_149_code 26 = .ok (.return_, 1) := by decide +kernel
theorem d_jdk_42_149_27 : decode jdk_42_method_149_code 27 = .ok (.getstatic 38, 3) := by decide +kernel
theorem d_jdk_42_149_30 : decode jdk_42_method_149_code 30 = .ok (.ifCond .eq 28, 3) := by decide +kernel
theorem d_jdk_42_149_33 : decode jdk_42_method_149_code 33 = .ok (.aload_n 1, 1) := by decide +kernel
theorem d_jdk_42_149_34 : decode jdk_42_method_149_code 34 = .ok (.iload_n 2, 1) := by decide +kernel
theorem d_jdk_42_149_35 : decode jdk_42_method_149_code 35 = .ok (.iload_n 3, 1) := by decide +kernel
theorem d_jdk_42_149_36 : decode jdk_42_method_149_code 36 = .ok (.invokestatic 177, 3) := by decide +kernel
theorem d_jdk_42_149_39 : decode jdk_42_method_149_code 39 = .ok (.astore 5, 2) := by decide +kernel
theorem d_jdk_42_149_41 : decode jdk_42_method_149_code 41 = .ok (.aload_n 0, 1) := by decide +kernel
theorem d_jdk_42_149_42 : decode jdk_42_method_149_code 42 = .ok (.aload 5, 2) := by decide +kernel
theorem d_jdk_42_149_44 : decode jdk_42_method_149_code 44 = .ok (.iload_n 3, 1) := by decide +kernel
theorem d_jdk_42_149_45 : decode jdk_42_method_149_code 45 = .ok (.invokestatic 47, 3) := by decide +kernel
theorem pd_6 : parseMethodDescriptor "([BI)B" = some ⟨[(.array .byte), .int], some .byte⟩ := by decide +kernel
theorem d_jdk_42_149_48 : decode jdk_42_method_149_code 48 = .ok (.putfield 15, 3) := by decide +kernel
theorem d_jdk_42_149_51 : decode jdk_42_method_149_code 51 = .ok (.aload_n 0, 1) := by decide +kernel
theorem d_jdk_42_149_52 : decode jdk_42_method_149_code 52 = .ok (.aload 5, 2) := by decide +kernel
theorem d_jdk_42_149_54 : decode jdk_42_method_149_code 54 = .ok (.putfield 9, 3) := by decide +kernel
theorem d_jdk_42_149_57 : decode jdk_42_method_149_code 57 = .ok (.return_, 1) := by decide +kernel
theorem ef_rm_s1 (m : MethodId) (x0 : Addr) (x1 : Addr) : entryFrame m #[(.ref x0), (.ref x1)] 2 = mkF m 0 #[.val (.ref x0), .val (.ref x1)] [] := by first | (simp [entryFrame, mkF, argsToLocals, Value.category]; done) | rfl
theorem d_jdk_42_3_0 : decode jdk_42_method_3_code 0 = .ok (.aload_n 0, 1) := by decide +kernel
theorem d_jdk_42_3_1 : decode jdk_42_method_3_code 1 = .ok (.aload_n 1, 1) := by decide +kernel
theorem d_jdk_42_3_2 : decode jdk_42_method_3_code 2 = .ok (.iconst 0, 1) := by decide +kernel
theorem d_jdk_42_3_3 : decode jdk_42_method_3_code 3 = .ok (.aload_n 1, 1) := by decide +kernel
theorem d_jdk_42_3_4 : decode jdk_42_method_3_code 4 = .ok (.arraylength, 1) := by decide +kernel
theorem d_jdk_42_3_5 : decode jdk_42_method_3_code 5 = .ok (.aconst_null, 1) := by decide +kernel
theorem d_jdk_42_3_6 : decode jdk_42_method_3_code 6 = .ok (.invokespecial 27, 3) := by decide +kernel
theorem pd_7 : parseMethodDescriptor "([CIILjava/lang/Void;)V" = some ⟨[(.array .char), .int, .int, (.object "java/lang/Void")], none⟩ := by decide +kernel
theorem d_jdk_42_3_9 : decode jdk_42_method_3_code 9 = .ok (.return_, 1) := by decide +kernel
theorem ef_rm_isl0 (m : MethodId) (x0 : Addr) : entryFrame m #[(.ref x0)] 1 = mkF m 0 #[.val (.ref x0)] [] := by first | (simp [entryFrame, mkF, argsToLocals, Value.category]; done) | rfl
theorem d_jdk_42_154_0 : decode jdk_42_method_154_code 0 = .ok (.getstatic 38, 3) := by decide +kernel
theorem d_jdk_42_154_3 : decode jdk_42_method_154_code 3 = .ok (.ifCond .eq 14, 3) := by decide +kernel
theorem d_jdk_42_154_6 : decode jdk_42_method_154_code 6 = .ok (.aload_n 0, 1) := by decide +kernel
theorem d_jdk_42_154_7 : decode jdk_42_method_154_code 7 = .ok (.getfield 15, 3) := by decide +kernel
theorem d_jdk_42_154_10 : decode jdk_42_method_154_code 10 = .ok (.ifCond .ne 7, 3) := by decide +kernel
theorem d_jdk_42_154_13 : decode jdk_42_method_154_code 13 = .ok (.iconst 1, 1) := by decide +kernel
theorem d_jdk_42_154_14 : decode jdk_42_method_154_code 14 = .ok (.goto 4, 3) := by decide +kernel
theorem d_jdk_42_154_18 : decode jdk_42_method_154_code 18 = .ok (.ireturn, 1) := by decide +kernel
theorem ef_rm_isl1 (m : MethodId) (x0 : Addr) : entryFrame m #[(.ref x0)] 1 = mkF m 0 #[.val (.ref x0)] [] := by first | (simp [entryFrame, mkF, argsToLocals, Value.category]; done) | rfl
theorem d_jdk_42_154_17 : decode jdk_42_method_154_code 17 = .ok (.iconst 0, 1) := by decide +kernel
theorem ef_rm_pick (m : MethodId) (x0 : Int32) : entryFrame m #[(.int x0)] 2 = mkF m 0 #[.val (.int x0), .unset] [] := by first | (simp [entryFrame, mkF, argsToLocals, Value.category]; done) | rfl
theorem pn_2 : plainName "com/example/brokerward/brokerward/rules/TopicFilterIsValidTopicNamePinLaw" = true := by first | (simp [plainName, overriddenIn]; done) | decide +kernel
theorem d_2_0 : decode method_2_code 0 = .ok (.iload_n 0, 1) := by decide +kernel
theorem d_2_1 : decode method_2_code 1 = .ok (.bipush 16, 2) := by decide +kernel
theorem d_2_3 : decode method_2_code 3 = .ok (.iushr, 1) := by decide +kernel
theorem d_2_4 : decode method_2_code 4 = .ok (.iconst 3, 1) := by decide +kernel
theorem d_2_5 : decode method_2_code 5 = .ok (.iand, 1) := by decide +kernel
theorem d_2_6 : decode method_2_code 6 = .ok (.istore_n 1, 1) := by decide +kernel
theorem d_2_7 : decode method_2_code 7 = .ok (.iload_n 1, 1) := by decide +kernel
theorem d_2_8 : decode method_2_code 8 = .ok (.ifCond .ne 5, 3) := by decide +kernel
theorem d_2_11 : decode method_2_code 11 = .ok (.iconst 0, 1) := by decide +kernel
theorem d_2_12 : decode method_2_code 12 = .ok (.ireturn, 1) := by decide +kernel
theorem d_2_13 : decode method_2_code 13 = .ok (.iload_n 1, 1) := by decide +kernel
theorem d_2_14 : decode method_2_code 14 = .ok (.iconst 1, 1) := by decide +kernel
theorem d_2_15 : decode method_2_code 15 = .ok (.if_icmp .ne 6, 3) := by decide +kernel
theorem d_2_18 : decode method_2_code 18 = .ok (.bipush 43, 2) := by decide +kernel
theorem d_2_20 : decode method_2_code 20 = .ok (.ireturn, 1) := by decide +kernel
theorem d_2_21 : decode method_2_code 21 = .ok (.iload_n 1, 1) := by decide +kernel
theorem d_2_22 : decode method_2_code 22 = .ok (.iconst 2, 1) := by decide +kernel
theorem d_2_23 : decode method_2_code 23 = .ok (.if_icmp .ne 6, 3) := by decide +kernel
theorem d_2_26 : decode method_2_code 26 = .ok (.bipush 35, 2) := by decide +kernel
theorem d_2_28 : decode method_2_code 28 = .ok (.ireturn, 1) := by decide +kernel
theorem d_2_29 : decode method_2_code 29 = .ok (.iload_n 0, 1) := by decide +kernel
theorem d_2_30 : decode method_2_code 30 = .ok (.ldc 7, 2) := by decide +kernel
theorem d_2_32 : decode method_2_code 32 = .ok (.iand, 1) := by decide +kernel
theorem d_2_33 : decode method_2_code 33 = .ok (.i2c, 1) := by decide +kernel
theorem d_2_34 : decode method_2_code 34 = .ok (.ireturn, 1) := by decide +kernel
theorem ef_rm_bad (m : MethodId) (x0 : Int32) : entryFrame m #[(.int x0)] 1 = mkF m 0 #[.val (.int x0)] [] := by first | (simp [entryFrame, mkF, argsToLocals, Value.category]; done) | rfl
theorem d_3_0 : decode method_3_code 0 = .ok (.iload_n 0, 1) := by decide +kernel
theorem d_3_1 : decode method_3_code 1 = .ok (.bipush 43, 2) := by decide +kernel
theorem d_3_3 : decode method_3_code 3 = .ok (.if_icmp .eq 13, 3) := by decide +kernel
theorem d_3_16 : decode method_3_code 16 = .ok (.iconst 1, 1) := by decide +kernel
theorem d_3_17 : decode method_3_code 17 = .ok (.goto 4, 3) := by decide +kernel
theorem d_3_21 : decode method_3_code 21 = .ok (.ireturn, 1) := by decide +kernel
theorem d_3_6 : decode method_3_code 6 = .ok (.iload_n 0, 1) := by decide +kernel
theorem d_3_7 : decode method_3_code 7 = .ok (.bipush 35, 2) := by decide +kernel
theorem d_3_9 : decode method_3_code 9 = .ok (.if_icmp .eq 7, 3) := by decide +kernel
theorem d_3_12 : decode method_3_code 12 = .ok (.iload_n 0, 1) := by decide +kernel
theorem d_3_13 : decode method_3_code 13 = .ok (.ifCond .ne 7, 3) := by decide +kernel
theorem d_3_20 : decode method_3_code 20 = .ok (.iconst 0, 1) := by decide +kernel
theorem ef_rm_max (m : MethodId) (x0 : Int32) (x1 : Int32) : entryFrame m #[(.int x0), (.int x1)] 2 = mkF m 0 #[.val (.int x0), .val (.int x1)] [] := by first | (simp [entryFrame, mkF, argsToLocals, Value.category]; done) | rfl
theorem d_jdk_29_65_0 : decode jdk_29_method_65_code 0 = .ok (.iload_n 0, 1) := by decide +kernel
theorem d_jdk_29_65_1 : decode jdk_29_method_65_code 1 = .ok (.iload_n 1, 1) := by decide +kernel
theorem d_jdk_29_65_2 : decode jdk_29_method_65_code 2 = .ok (.if_icmp .lt 7, 3) := by decide +kernel
theorem d_jdk_29_65_9 : decode jdk_29_method_65_code 9 = .ok (.iload_n 1, 1) := by decide +kernel
theorem d_jdk_29_65_10 : decode jdk_29_method_65_code 10 = .ok (.ireturn, 1) := by decide +kernel
theorem d_jdk_29_65_5 : decode jdk_29_method_65_code 5 = .ok (.iload_n 0, 1) := by decide +kernel
theorem d_jdk_29_65_6 : decode jdk_29_method_65_code 6 = .ok (.goto 4, 3) := by decide +kernel
theorem ef_rm_min (m : MethodId) (x0 : Int32) (x1 : Int32) : entryFrame m #[(.int x0), (.int x1)] 2 = mkF m 0 #[.val (.int x0), .val (.int x1)] [] := by first | (simp [entryFrame, mkF, argsToLocals, Value.category]; done) | rfl
theorem d_jdk_29_69_0 : decode jdk_29_method_69_code 0 = .ok (.iload_n 0, 1) := by decide +kernel
theorem d_jdk_29_69_1 : decode jdk_29_method_69_code 1 = .ok (.iload_n 1, 1) := by decide +kernel
theorem d_jdk_29_69_2 : decode jdk_29_method_69_code 2 = .ok (.if_icmp .gt 7, 3) := by decide +kernel
theorem d_jdk_29_69_9 : decode jdk_29_method_69_code 9 = .ok (.iload_n 1, 1) := by decide +kernel
theorem d_jdk_29_69_10 : decode jdk_29_method_69_code 10 = .ok (.ireturn, 1) := by decide +kernel
theorem d_jdk_29_69_5 : decode jdk_29_method_69_code 5 = .ok (.iload_n 0, 1) := by decide +kernel
theorem d_jdk_29_69_6 : decode jdk_29_method_69_code 6 = .ok (.goto 4, 3) := by decide +kernel
theorem ef_rm_lce (m : MethodId) (x0 : Int32) : entryFrame m #[(.int x0)] 1 = mkF m 0 #[.val (.int x0)] [] := by first | (simp [entryFrame, mkF, argsToLocals, Value.category]; done) | rfl
theorem pn_3 : plainName "java/lang/StringLatin1" = true := by first | (simp [plainName, overriddenIn]; done) | decide +kernel
theorem d_jdk_43_4_0 : decode jdk_43_method_4_code 0 = .ok (.iload_n 0, 1) := by decide +kernel
theorem d_jdk_43_4_1 : decode jdk_43_method_4_code 1 = .ok (.ifCond .lt 14, 3) := by decide +kernel
theorem d_jdk_43_4_4 : decode jdk_43_method_4_code 4 = .ok (.iload_n 0, 1) := by decide +kernel
theorem d_jdk_43_4_5 : decode jdk_43_method_4_code 5 = .ok (.sipush 255, 3) := by decide +kernel
theorem d_jdk_43_4_8 : decode jdk_43_method_4_code 8 = .ok (.if_icmp .gt 7, 3) := by decide +kernel
theorem d_jdk_43_4_11 : decode jdk_43_method_4_code 11 = .ok (.iconst 1, 1) := by decide +kernel
theorem d_jdk_43_4_12 : decode jdk_43_method_4_code 12 = .ok (.goto 4, 3) := by decide +kernel
theorem d_jdk_43_4_16 : decode jdk_43_method_4_code 16 = .ok (.ireturn, 1) := by decide +kernel
theorem ef_rm_lic (m : MethodId) (x0 : Addr) (x1 : Int32) (x2 : Int32) (x3 : Int32) : entryFrame m #[(.ref x0), (.int x1), (.int x2), (.int x3)] 6 = mkF m 0 #[.val (.ref x0), .val (.int x1), .val (.int x2), .val (.int x3), .unset, .unset] [] := by first | (simp [entryFrame, mkF, argsToLocals, Value.category]; done) | rfl
theorem d_jdk_43_23_7 : decode jdk_43_method_23_code 7 = .ok (.iload 5, 2) := by decide +kernel
theorem d_jdk_43_23_9 : decode jdk_43_method_23_code 9 = .ok (.iload_n 3, 1) := by decide +kernel
theorem d_jdk_43_23_10 : decode jdk_43_method_23_code 10 = .ok (.if_icmp .ge 21, 3) := by decide +kernel
theorem d_jdk_43_23_31 : decode jdk_43_method_23_code 31 = .ok (.iconst (-1), 1) := by decide +kernel
theorem d_jdk_43_23_32 : decode jdk_43_method_23_code 32 = .ok (.ireturn, 1) := by decide +kernel
theorem d_jdk_43_23_13 : decode jdk_43_method_23_code 13 = .ok (.aload_n 0, 1) := by decide +kernel
theorem d_jdk_43_23_14 : decode jdk_43_method_23_code 14 = .ok (.iload 5, 2) := by decide +kernel
theorem d_jdk_43_23_16 : decode jdk_43_method_23_code 16 = .ok (.baload, 1) := by decide +kernel
theorem d_jdk_43_23_17 : decode jdk_43_method_23_code 17 = .ok (.iload 4, 2) := by decide +kernel
theorem d_jdk_43_23_19 : decode jdk_43_method_23_code 19 = .ok (.if_icmp .ne 6, 3) := by decide +kernel
theorem d_jdk_43_23_22 : decode jdk_43_method_23_code 22 = .ok (.iload 5, 2) := by decide +kernel
theorem d_jdk_43_23_24 : decode jdk_43_method_23_code 24 = .ok (.ireturn, 1) := by decide +kernel
theorem d_jdk_43_23_25 : decode jdk_43_method_23_code 25 = .ok (.iinc 5 1, 3) := by decide +kernel
theorem d_jdk_43_23_28 : decode jdk_43_method_23_code 28 = .ok (.goto (-21), 3) := by decide +kernel
theorem d_jdk_43_23_0 : decode jdk_43_method_23_code 0 = .ok (.iload_n 1, 1) := by decide +kernel
theorem d_jdk_43_23_1 : decode jdk_43_method_23_code 1 = .ok (.i2b, 1) := by decide +kernel
theorem d_jdk_43_23_2 : decode jdk_43_method_23_code 2 = .ok (.istore 4, 2) := by decide +kernel
theorem d_jdk_43_23_4 : decode jdk_43_method_23_code 4 = .ok (.iload_n 2, 1) := by decide +kernel
theorem d_jdk_43_23_5 : decode jdk_43_method_23_code 5 = .ok (.istore 5, 2) := by decide +kernel
theorem ef_rm_uiu (m : MethodId) (x0 : Addr) (x1 : Int32) (x2 : Int32) (x3 : Int32) : entryFrame m #[(.ref x0), (.int x1), (.int x2), (.int x3)] 5 = mkF m 0 #[.val (.ref x0), .val (.int x1), .val (.int x2), .val (.int x3), .unset] [] := by first | (simp [entryFrame, mkF, argsToLocals, Value.category]; done) | rfl
theorem d_jdk_52_48_3 : decode jdk_52_method_48_code 3 = .ok (.iload 4, 2) := by decide +kernel
theorem d_jdk_52_48_5 : decode jdk_52_method_48_code 5 = .ok (.iload_n 3, 1) := by decide +kernel
theorem d_jdk_52_48_6 : decode jdk_52_method_48_code 6 = .ok (.if_icmp .ge 22, 3) := by decide +kernel
theorem d_jdk_52_48_28 : decode jdk_52_method_48_code 28 = .ok (.iconst (-1), 1) := by decide +kernel
theorem d_jdk_52_48_29 : decode jdk_52_method_48_code 29 = .ok (.ireturn, 1) := by decide +kernel
theorem d_jdk_52_48_9 : decode jdk_52_method_48_code 9 = .ok (.aload_n 0, 1) := by decide +kernel
theorem d_jdk_52_48_10 : decode jdk_52_method_48_code 10 = .ok (.iload 4, 2) := by decide +kernel
theorem d_jdk_52_48_12 : decode jdk_52_method_48_code 12 = .ok (.invokestatic 71, 3) := by decide +kernel
theorem d_jdk_52_48_15 : decode jdk_52_method_48_code 15 = .ok (.iload_n 1, 1) := by decide +kernel
theorem d_jdk_52_48_16 : decode jdk_52_method_48_code 16 = .ok (.if_icmp .ne 6, 3) := by decide +kernel
theorem d_jdk_52_48_19 : decode jdk_52_method_48_code 19 = .ok (.iload 4, 2) := by decide +kernel
theorem d_jdk_52_48_21 : decode jdk_52_method_48_code 21 = .ok (.ireturn, 1) := by decide +kernel
theorem d_jdk_52_48_22 : decode jdk_52_method_48_code 22 = .ok (.iinc 4 1, 3) := by decide +kernel
theorem d_jdk_52_48_25 : decode jdk_52_method_48_code 25 = .ok (.goto (-22), 3) := by decide +kernel
theorem d_jdk_52_48_0 : decode jdk_52_method_48_code 0 = .ok (.iload_n 2, 1) := by decide +kernel
theorem d_jdk_52_48_1 : decode jdk_52_method_48_code 1 = .ok (.istore 4, 2) := by decide +kernel
theorem ef_rm_lix (m : MethodId) (x0 : Addr) (x1 : Int32) (x2 : Int32) (x3 : Int32) : entryFrame m #[(.ref x0), (.int x1), (.int x2), (.int x3)] 4 = mkF m 0 #[.val (.ref x0), .val (.int x1), .val (.int x2), .val (.int x3)] [] := by first | (simp [entryFrame, mkF, argsToLocals, Value.category]; done) | rfl
theorem d_jdk_43_22_0 : decode jdk_43_method_22_code 0 = .ok (.iload_n 1, 1) := by decide +kernel
theorem d_jdk_43_22_1 : decode jdk_43_method_22_code 1 = .ok (.invokestatic 88, 3) := by decide +kernel
theorem pd_8 : parseMethodDescriptor "(I)Z" = some ⟨[.int], some .boolean⟩ := by decide +kernel
theorem d_jdk_43_22_4 : decode jdk_43_method_22_code 4 = .ok (.ifCond .ne 5, 3) := by decide +kernel
theorem d_jdk_43_22_9 : decode jdk_43_method_22_code 9 = .ok (.iload_n 2, 1) := by decide +kernel
theorem d_jdk_43_22_10 : decode jdk_43_method_22_code 10 = .ok (.iconst 0, 1) := by decide +kernel
theorem d_jdk_43_22_11 : decode jdk_43_method_22_code 11 = .ok (.invokestatic 92, 3) := by decide +kernel
theorem pd_9 : parseMethodDescriptor "(II)I" = some ⟨[.int, .int], some .int⟩ := by decide +kernel
theorem d_jdk_43_22_14 : decode jdk_43_method_22_code 14 = .ok (.istore_n 2, 1) := by decide +kernel
theorem d_jdk_43_22_15 : decode jdk_43_method_22_code 15 = .ok (.iload_n 3, 1) := by decide +kernel
theorem d_jdk_43_22_16 : decode jdk_43_method_22_code 16 = .ok (.aload_n 0, 1) := by decide +kernel
theorem d_jdk_43_22_17 : decode jdk_43_method_22_code 17 = .ok (.arraylength, 1) := by decide +kernel
theorem d_jdk_43_22_18 : decode jdk_43_method_22_code 18 = .ok (.invokestatic 38, 3) := by decide +kernel
theorem d_jdk_43_22_21 : decode jdk_43_method_22_code 21 = .ok (.istore_n 3, 1) := by decide +kernel
theorem d_jdk_43_22_22 : decode jdk_43_method_22_code 22 = .ok (.iload_n 2, 1) := by decide +kernel
theorem d_jdk_43_22_23 : decode jdk_43_method_22_code 23 = .ok (.iload_n 3, 1) := by decide +kernel
theorem d_jdk_43_22_24 : decode jdk_43_method_22_code 24 = .ok (.if_icmp .lt 5, 3) := by decide +kernel
theorem d_jdk_43_22_29 : decode jdk_43_method_22_code 29 = .ok (.aload_n 0, 1) := by decide +kernel
theorem d_jdk_43_22_30 : decode jdk_43_method_22_code 30 = .ok (.iload_n 1, 1) := by decide +kernel
theorem d_jdk_43_22_31 : decode jdk_43_method_22_code 31 = .ok (.iload_n 2, 1) := by decide +kernel
theorem d_jdk_43_22_32 : decode jdk_43_method_22_code 32 = .ok (.iload_n 3, 1) := by decide +kernel
theorem d_jdk_43_22_33 : decode jdk_43_method_22_code 33 = .ok (.invokestatic 95, 3) := by decide +kernel
theorem pd_10 : parseMethodDescriptor "([BIII)I" = some ⟨[(.array .byte), .int, .int, .int], some .int⟩ := by decide +kernel
theorem d_jdk_43_22_36 : decode jdk_43_method_22_code 36 = .ok (.ireturn, 1) := by decide +kernel
theorem ef_rm_cft (m : MethodId) (x0 : Int32) (x1 : Int32) (x2 : Int32) (x3 : Value) (hx3 : x3.isRef = true) : entryFrame m #[(.int x0), (.int x1), (.int x2), x3] 4 = mkF m 0 #[.val (.int x0), .val (.int x1), .val (.int x2), .val x3] [] := by rcases ref_cases hx3 with rfl | ⟨y3, rfl⟩ <;> first | (simp [entryFrame, mkF, argsToLocals, Value.category]; done) | rfl
theorem pn_4 : plainName "jdk/internal/util/Preconditions" = true := by first | (simp [plainName, overriddenIn]; done) | decide +kernel
theorem d_jdk_41_12_0 : decode jdk_41_method_12_code 0 = .ok (.iload_n 0, 1) := by decide +kernel
theorem d_jdk_41_12_1 : decode jdk_41_method_12_code 1 = .ok (.ifCond .lt 13, 3) := by decide +kernel
theorem d_jdk_41_12_4 : decode jdk_41_method_12_code 4 = .ok (.iload_n 0, 1) := by decide +kernel
theorem d_jdk_41_12_5 : decode jdk_41_method_12_code 5 = .ok (.iload_n 1, 1) := by decide +kernel
theorem d_jdk_41_12_6 : decode jdk_41_method_12_code 6 = .ok (.if_icmp .gt 8, 3) := by decide +kernel
theorem d_jdk_41_12_9 : decode jdk_41_method_12_code 9 = .ok (.iload_n 1, 1) := by decide +kernel
theorem d_jdk_41_12_10 : decode jdk_41_method_12_code 10 = .ok (.iload_n 2, 1) := by decide +kernel
theorem d_jdk_41_12_11 : decode jdk_41_method_12_code 11 = .ok (.if_icmp .le 11, 3) := by decide +kernel
theorem d_jdk_41_12_22 : decode jdk_41_method_12_code 22 = .ok (.iload_n 0, 1) := by decide +kernel
theorem d_jdk_41_12_23 : decode jdk_41_method_12_code 23 = .ok (.ireturn, 1) := by decide +kernel
theorem ef_rm_scb (m : MethodId) (x0 : Int32) (x1 : Int32) (x2 : Int32) : entryFrame m #[(.int x0), (.int x1), (.int x2)] 3 = mkF m 0 #[.val (.int x0), .val (.int x1), .val (.int x2)] [] := by first | (simp [entryFrame, mkF, argsToLocals, Value.category]; done) | rfl
theorem d_jdk_42_158_0 : decode jdk_42_method_158_code 0 = .ok (.iload_n 0, 1) := by decide +kernel
theorem d_jdk_42_158_1 : decode jdk_42_method_158_code 1 = .ok (.iload_n 1, 1) := by decide +kernel
theorem d_jdk_42_158_2 : decode jdk_42_method_158_code 2 = .ok (.iload_n 2, 1) := by decide +kernel
theorem d_jdk_42_158_3 : decode jdk_42_method_158_code 3 = .ok (.getstatic 1053, 3) := by decide +kernel
theorem d_jdk_42_158_6 : decode jdk_42_method_158_code 6 = .ok (.invokestatic 1062, 3) := by decide +kernel
theorem pd_11 : parseMethodDescriptor "(IIILjava/util/function/BiFunction;)I" = some ⟨[.int, .int, .int, (.object "java/util/function/BiFunction")], some .int⟩ := by decide +kernel
theorem d_jdk_42_158_9 : decode jdk_42_method_158_code 9 = .ok (.pop, 1) := by decide +kernel
theorem d_jdk_42_158_10 : decode jdk_42_method_158_code 10 = .ok (.return_, 1) := by decide +kernel
theorem ef_rm_ucb (m : MethodId) (x0 : Int32) (x1 : Int32) (x2 : Addr) : entryFrame m #[(.int x0), (.int x1), (.ref x2)] 3 = mkF m 0 #[.val (.int x0), .val (.int x1), .val (.ref x2)] [] := by first | (simp [entryFrame, mkF, argsToLocals, Value.category]; done) | rfl
theorem d_jdk_52_93_0 : decode jdk_52_method_93_code 0 = .ok (.iload_n 0, 1) := by decide +kernel
theorem d_jdk_52_93_1 : decode jdk_52_method_93_code 1 = .ok (.iload_n 1, 1) := by decide +kernel
theorem d_jdk_52_93_2 : decode jdk_52_method_93_code 2 = .ok (.aload_n 2, 1) := by decide +kernel
theorem d_jdk_52_93_3 : decode jdk_52_method_93_code 3 = .ok (.invokestatic 48, 3) := by decide +kernel
theorem pd_12 : parseMethodDescriptor "([B)I" = some ⟨[(.array .byte)], some .int⟩ := by decide +kernel
theorem d_jdk_52_93_6 : decode jdk_52_method_93_code 6 = .ok (.invokestatic 241, 3) := by decide +kernel
theorem pd_13 : parseMethodDescriptor "(III)V" = some ⟨[.int, .int, .int], none⟩ := by decide +kernel
theorem d_jdk_52_93_9 : decode jdk_52_method_93_code 9 = .ok (.return_, 1) := by decide +kernel
theorem ef_rm_uic (m : MethodId) (x0 : Addr) (x1 : Int32) (x2 : Int32) (x3 : Int32) : entryFrame m #[(.ref x0), (.int x1), (.int x2), (.int x3)] 4 = mkF m 0 #[.val (.ref x0), .val (.int x1), .val (.int x2), .val (.int x3)] [] := by first | (simp [entryFrame, mkF, argsToLocals, Value.category]; done) | rfl
theorem d_jdk_52_47_0 : decode jdk_52_method_47_code 0 = .ok (.iload_n 2, 1) := by decide +kernel
theorem d_jdk_52_47_1 : decode jdk_52_method_47_code 1 = .ok (.iload_n 3, 1) := by decide +kernel
theorem d_jdk_52_47_2 : decode jdk_52_method_47_code 2 = .ok (.aload_n 0, 1) := by decide +kernel
theorem d_jdk_52_47_3 : decode jdk_52_method_47_code 3 = .ok (.invokestatic 96, 3) := by decide +kernel
theorem pd_14 : parseMethodDescriptor "(II[B)V" = some ⟨[.int, .int, (.array .byte)], none⟩ := by decide +kernel
theorem d_jdk_52_47_6 : decode jdk_52_method_47_code 6 = .ok (.aload_n 0, 1) := by decide +kernel
theorem d_jdk_52_47_7 : decode jdk_52_method_47_code 7 = .ok (.iload_n 1, 1) := by decide +kernel
theorem d_jdk_52_47_8 : decode jdk_52_method_47_code 8 = .ok (.iload_n 2, 1) := by decide +kernel
theorem d_jdk_52_47_9 : decode jdk_52_method_47_code 9 = .ok (.iload_n 3, 1) := by decide +kernel
theorem d_jdk_52_47_10 : decode jdk_52_method_47_code 10 = .ok (.invokestatic 244, 3) := by decide +kernel
theorem d_jdk_52_47_13 : decode jdk_52_method_47_code 13 = .ok (.ireturn, 1) := by decide +kernel
theorem ef_rm_uix (m : MethodId) (x0 : Addr) (x1 : Int32) (x2 : Int32) (x3 : Int32) : entryFrame m #[(.ref x0), (.int x1), (.int x2), (.int x3)] 4 = mkF m 0 #[.val (.ref x0), .val (.int x1), .val (.int x2), .val (.int x3)] [] := by first | (simp [entryFrame, mkF, argsToLocals, Value.category]; done) | rfl
theorem d_jdk_52_40_0 : decode jdk_52_method_40_code 0 = .ok (.iload_n 2, 1) := by decide +kernel
theorem d_jdk_52_40_1 : decode jdk_52_method_40_code 1 = .ok (.iconst 0, 1) := by decide +kernel
theorem d_jdk_52_40_2 : decode jdk_52_method_40_code 2 = .ok (.invokestatic 224, 3) := by decide +kernel
theorem d_jdk_52_40_5 : decode jdk_52_method_40_code 5 = .ok (.istore_n 2, 1) := by decide +kernel
theorem d_jdk_52_40_6 : decode jdk_52_method_40_code 6 = .ok (.iload_n 3, 1) := by decide +kernel
theorem d_jdk_52_40_7 : decode jdk_52_method_40_code 7 = .ok (.aload_n 0, 1) := by decide +kernel
theorem d_jdk_52_40_8 : decode jdk_52_method_40_code 8 = .ok (.arraylength, 1) := by decide +kernel
theorem d_jdk_52_40_9 : decode jdk_52_method_40_code 9 = .ok (.iconst 1, 1) := by decide +kernel
theorem d_jdk_52_40_10 : decode jdk_52_method_40_code 10 = .ok (.ishr, 1) := by decide +kernel
theorem d_jdk_52_40_11 : decode jdk_52_method_40_code 11 = .ok (.invokestatic 183, 3) := by decide +kernel
theorem d_jdk_52_40_14 : decode jdk_52_method_40_code 14 = .ok (.istore_n 3, 1) := by decide +kernel
theorem d_jdk_52_40_15 : decode jdk_52_method_40_code 15 = .ok (.iload_n 2, 1) := by decide +kernel
theorem d_jdk_52_40_16 : decode jdk_52_method_40_code 16 = .ok (.iload_n 3, 1) := by decide +kernel
theorem d_jdk_52_40_17 : decode jdk_52_method_40_code 17 = .ok (.if_icmp .lt 5, 3) := by decide +kernel
theorem d_jdk_52_40_22 : decode jdk_52_method_40_code 22 = .ok (.iload_n 1, 1) := by decide +kernel
theorem d_jdk_52_40_23 : decode jdk_52_method_40_code 23 = .ok (.ldc 227, 2) := by decide +kernel
theorem d_jdk_52_40_25 : decode jdk_52_method_40_code 25 = .ok (.if_icmp .ge 11, 3) := by decide +kernel
theorem d_jdk_52_40_28 : decode jdk_52_method_40_code 28 = .ok (.aload_n 0, 1) := by decide +kernel
theorem d_jdk_52_40_29 : decode jdk_52_method_40_code 29 = .ok (.iload_n 1, 1) := by decide +kernel
theorem d_jdk_52_40_30 : decode jdk_52_method_40_code 30 = .ok (.iload_n 2, 1) := by decide +kernel
theorem d_jdk_52_40_31 : decode jdk_52_method_40_code 31 = .ok (.iload_n 3, 1) := by decide +kernel
theorem d_jdk_52_40_32 : decode jdk_52_method_40_code 32 = .ok (.invokestatic 228, 3) := by decide +kernel
theorem d_jdk_52_40_35 : decode jdk_52_method_40_code 35 = .ok (.ireturn, 1) := by decide +kernel
theorem ef_rm_ix2 (m : MethodId) (x0 : Addr) (x1 : Int32) (x2 : Int32) : entryFrame m #[(.ref x0), (.int x1), (.int x2)] 3 = mkF m 0 #[.val (.ref x0), .val (.int x1), .val (.int x2)] [] := by first | (simp [entryFrame, mkF, argsToLocals, Value.category]; done) | rfl
theorem d_jdk_42_80_0 : decode jdk_42_method_80_code 0 = .ok (.aload_n 0, 1) := by decide +kernel
theorem d_jdk_42_80_1 : decode jdk_42_method_80_code 1 = .ok (.invokevirtual 492, 3) := by decide +kernel
theorem pd_15 : parseMethodDescriptor "()Z" = some ⟨[], some .boolean⟩ := by decide +kernel
theorem d_jdk_42_80_4 : decode jdk_42_method_80_code 4 = .ok (.ifCond .eq 19, 3) := by decide +kernel
theorem d_jdk_42_80_7 : decode jdk_42_method_80_code 7 = .ok (.aload_n 0, 1) := by decide +kernel
theorem d_jdk_42_80_8 : decode jdk_42_method_80_code 8 = .ok (.getfield 9, 3) := by decide +kernel
theorem d_jdk_42_80_11 : decode jdk_42_method_80_code 11 = .ok (.iload_n 1, 1) := by decide +kernel
theorem d_jdk_42_80_12 : decode jdk_42_method_80_code 12 = .ok (.iload_n 2, 1) := by decide +kernel
theorem d_jdk_42_80_13 : decode jdk_42_method_80_code 13 = .ok (.aload_n 0, 1) := by decide +kernel
theorem d_jdk_42_80_14 : decode jdk_42_method_80_code 14 = .ok (.invokevirtual 505, 3) := by decide +kernel
theorem d_jdk_42_80_17 : decode jdk_42_method_80_code 17 = .ok (.invokestatic 637, 3) := by decide +kernel
theorem d_jdk_42_80_20 : decode jdk_42_method_80_code 20 = .ok (.goto 16, 3) := by decide +kernel
theorem d_jdk_42_80_36 : decode jdk_42_method_80_code 36 = .ok (.ireturn, 1) := by decide +kernel
theorem d_jdk_42_80_23 : decode jdk_42_method_80_code 23 = .ok (.aload_n 0, 1) := by decide +kernel
theorem d_jdk_42_80_24 : decode jdk_42_method_80_code 24 = .ok (.getfield 9, 3) := by decide +kernel
theorem d_jdk_42_80_27 : decode jdk_42_method_80_code 27 = .ok (.iload_n 1, 1) := by decide +kernel
theorem d_jdk_42_80_28 : decode jdk_42_method_80_code 28 = .ok (.iload_n 2, 1) := by decide +kernel
theorem d_jdk_42_80_29 : decode jdk_42_method_80_code 29 = .ok (.aload_n 0, 1) := by decide +kernel
theorem d_jdk_42_80_30 : decode jdk_42_method_80_code 30 = .ok (.invokevirtual 505, 3) := by decide +kernel
theorem d_jdk_42_80_33 : decode jdk_42_method_80_code 33 = .ok (.invokestatic 640, 3) := by decide +kernel
theorem ef_rm_ix1 (m : MethodId) (x0 : Addr) (x1 : Int32) : entryFrame m #[(.ref x0), (.int x1)] 2 = mkF m 0 #[.val (.ref x0), .val (.int x1)] [] := by first | (simp [entryFrame, mkF, argsToLocals, Value.category]; done) | rfl
theorem d_jdk_42_79_0 : decode jdk_42_method_79_code 0 = .ok (.aload_n 0, 1) := by decide +kernel
theorem d_jdk_42_79_1 : decode jdk_42_method_79_code 1 = .ok (.iload_n 1, 1) := by decide +kernel
theorem d_jdk_42_79_2 : decode jdk_42_method_79_code 2 = .ok (.iconst 0, 1) := by decide +kernel
theorem d_jdk_42_79_3 : decode jdk_42_method_79_code 3 = .ok (.invokevirtual 633, 3) := by decide +kernel
theorem d_jdk_42_79_6 : decode jdk_42_method_79_code 6 = .ok (.ireturn, 1) := by decide +kernel
theorem ef_rm_hwc (m : MethodId) (x0 : Addr) : entryFrame m #[(.ref x0)] 1 = mkF m 0 #[.val (.ref x0)] [] := by first | (simp [entryFrame, mkF, argsToLocals, Value.category]; done) | rfl
theorem pn_5 : plainName "com/example/brokerward/brokerward/rules/TopicFilter" = true := by first | (simp [plainName, overriddenIn]; done) | decide +kernel
theorem d_prog_53_5_0 : decode prog_53_method_5_code 0 = .ok (.aload_n 0, 1) := by decide +kernel
theorem d_prog_53_5_1 : decode prog_53_method_5_code 1 = .ok (.bipush 43, 2) := by decide +kernel
theorem d_prog_53_5_3 : decode prog_53_method_5_code 3 = .ok (.invokevirtual 33, 3) := by decide +kernel
theorem d_prog_53_5_6 : decode prog_53_method_5_code 6 = .ok (.ifCond .ge 12, 3) := by decide +kernel
theorem d_prog_53_5_9 : decode prog_53_method_5_code 9 = .ok (.aload_n 0, 1) := by decide +kernel
theorem d_prog_53_5_10 : decode prog_53_method_5_code 10 = .ok (.bipush 35, 2) := by decide +kernel
theorem d_prog_53_5_12 : decode prog_53_method_5_code 12 = .ok (.invokevirtual 33, 3) := by decide +kernel
theorem d_prog_53_5_15 : decode prog_53_method_5_code 15 = .ok (.ifCond .lt 7, 3) := by decide +kernel
theorem d_prog_53_5_22 : decode prog_53_method_5_code 22 = .ok (.iconst 0, 1) := by decide +kernel
theorem d_prog_53_5_23 : decode prog_53_method_5_code 23 = .ok (.ireturn, 1) := by decide +kernel
theorem d_prog_53_5_18 : decode prog_53_method_5_code 18 = .ok (.iconst 1, 1) := by decide +kernel
theorem d_prog_53_5_19 : decode prog_53_method_5_code 19 = .ok (.goto 4, 3) := by decide +kernel
theorem ef_rm_ivt (m : MethodId) (x0 : Addr) : entryFrame m #[(.ref x0)] 1 = mkF m 0 #[.val (.ref x0)] [] := by first | (simp [entryFrame, mkF, argsToLocals, Value.category]; done) | rfl
theorem d_prog_53_4_0 : decode prog_53_method_4_code 0 = .ok (.aload_n 0, 1) := by decide +kernel
theorem d_prog_53_4_1 : decode prog_53_method_4_code 1 = .ok (.invokevirtual 23, 3) := by decide +kernel
theorem d_prog_53_4_4 : decode prog_53_method_4_code 4 = .ok (.ifCond .ne 22, 3) := by decide +kernel
theorem d_prog_53_4_26 : decode prog_53_method_4_code 26 = .ok (.iconst 0, 1) := by decide +kernel
theorem d_prog_53_4_27 : decode prog_53_method_4_code 27 = .ok (.ireturn, 1) := by decide +kernel
theorem d_prog_53_4_7 : decode prog_53_method_4_code 7 = .ok (.aload_n 0, 1) := by decide +kernel
theorem d_prog_53_4_8 : decode prog_53_method_4_code 8 = .ok (.invokestatic 29, 3) := by decide +kernel
theorem pd_16 : parseMethodDescriptor "(Ljava/lang/String;)Z" = some ⟨[(.object "java/lang/String")], some .boolean⟩ := by decide +kernel
theorem d_prog_53_4_11 : decode prog_53_method_4_code 11 = .ok (.ifCond .ne 15, 3) := by decide +kernel
theorem d_prog_53_4_14 : decode prog_53_method_4_code 14 = .ok (.aload_n 0, 1) := by decide +kernel
theorem d_prog_53_4_15 : decode prog_53_method_4_code 15 = .ok (.iconst 0, 1) := by decide +kernel
theorem d_prog_53_4_16 : decode prog_53_method_4_code 16 = .ok (.invokevirtual 33, 3) := by decide +kernel
theorem d_prog_53_4_19 : decode prog_53_method_4_code 19 = .ok (.ifCond .ge 7, 3) := by decide +kernel
theorem d_prog_53_4_22 : decode prog_53_method_4_code 22 = .ok (.iconst 1, 1) := by decide +kernel
theorem d_prog_53_4_23 : decode prog_53_method_4_code 23 = .ok (.goto 4, 3) := by decide +kernel
theorem ef_rm_law (m : MethodId) (x0 : Int32) (x1 : Int32) (x2 : Int32) (x3 : Int32) : entryFrame m #[(.int x0), (.int x1), (.int x2), (.int x3)] maxLocals = mkF m 0 #[.val (.int x0), .val (.int x1), .val (.int x2), .val (.int x3), .unset, .unset, .unset, .unset, .unset, .unset, .unset] [] := by first | (simp [entryFrame, mkF, argsToLocals, Value.category, maxLocals]; done) | rfl
theorem pd_17 : parseMethodDescriptor "(I)C" = some ⟨[.int], some .char⟩ := by decide +kernel
theorem pd_18 : parseMethodDescriptor "([C)V" = some ⟨[(.array .char)], none⟩ := by decide +kernel
theorem pd_19 : parseMethodDescriptor "(C)Z" = some ⟨[.char], some .boolean⟩ := by decide +kernel
def ELx : List (String × Nat) := [("java/lang/String", 7)]
theorem own_hE {a0 : Array Value} {Z : State} (hw : ∀ d ∈ tables_1, d.before a0 Z = true) : EW Z a0 ELx := EW.cons (text := "") (ow hw 18 rfl) (by decide) EW.nil
theorem own_hst {a0 : Array Value} {Z : State} (hw : ∀ d ∈ tables_1, d.before a0 Z = true) : ∀ a ∈ Bundle.stringAtoms, a.before a0 Z = true := fun a ha => hw a ((by decide +kernel : ∀ d ∈ Bundle.stringAtoms, d ∈ tables_1) a ha)
theorem own_hws {a0 : Array Value} {Z : State} (hw : ∀ d ∈ tables_1, d.before a0 Z = true) : ∀ d ∈ StrChars.Road.words, d.before a0 Z = true := fun d hd => hw d ((by decide +kernel : ∀ d ∈ StrChars.Road.words, d ∈ tables_1) d hd)
theorem own_start {tb : Tables} {e : Env} {s : State} {a0 : Array Value} (hE : EW s a0 ELx) (hcalls : Calls_1 tb e a0 s) (hc : (Jvm.Cond.not (Jvm.Cond.eq (Jvm.Term.static "java/lang/String" "COMPACT_STRINGS" "Z") (Jvm.Term.int (0 : Int32)))).before a0 s = true) (wa : (Jvm.Cond.arrayClass .byte).before a0 s = true) (wi : (Jvm.Cond.instantiable "java/lang/String" 4).before a0 s = true) : CHv s ELx s.vm s.heap :=
  CHv.start hE (fun p hp => hcalls.1 p hp) hc wa wi
theorem all0c {P : Int32 → Prop} : ∀ x ∈ ([] : List Int32), P x := fun _ q => nomatch q
theorem allC {P : Int32 → Prop} {y : Int32} {L : List Int32} (q : P y) (r : ∀ x ∈ L, P x) : ∀ x ∈ y :: L, P x := fun x z => (List.mem_cons.mp z).elim (fun u => u ▸ q) (r x)
theorem own_i255 : (255 : Int32).toInt = 255 := by decide
theorem own_i0 : (0 : Int32).toInt = 0 := by decide
theorem own_ch (x : Int32) : ¬ ((x &&& (255 : Int32)).toUInt32.toUInt16.toUInt32.toInt32) < 0 ∧ ¬ (255 : Int32) < ((x &&& (255 : Int32)).toUInt32.toUInt16.toUInt32.toInt32) := by
  rw [i2c_mask]
  have h := c_and x (255 : Int32) (by decide)
  simp only [Int32.lt_iff_toInt_lt, own_i255, own_i0] at *; omega
theorem own_narc {x : Int32} (h : ¬ x < 0 ∧ ¬ (255 : Int32) < x) : nar .char x = x := by
  have c := c_i2c x
  have r := rng32 x
  simp only [Int32.lt_iff_toInt_lt, own_i255, own_i0] at h
  apply Int32.toInt_inj.mp
  show (x.toUInt32.toUInt16.toUInt32.toInt32).toInt = x.toInt
  omega
theorem own_rngm (x d : Int32) (h0 : 0 ≤ x.toInt) (hd : 0 < d.toInt) : ¬ (x % d) < 0 ∧ (x % d) < d := by
  have h2 := (c_iremV x d).1 h0 hd
  simp only [Int32.lt_iff_toInt_lt, own_i0]; omega
theorem own_on {n : Nat} (h : n ≤ 4000) : (Int32.ofNat n).toInt = n := Int32.toInt_ofNat_small (by omega)
theorem own_onc {n : Nat} (h : n ≤ 4000) : (Int32.ofNat n).toNatClampNeg = n := by unfold Int32.toNatClampNeg; rw [own_on h]; omega
theorem own_on0 {n : Nat} (h : n ≤ 4000) : ¬ Int32.ofNat n < 0 := by rw [Int32.lt_iff_toInt_lt, own_on h, own_i0]; omega
theorem own_onlt {a b : Nat} (ha : a ≤ 4000) (hb : b ≤ 4000) : Int32.ofNat a < Int32.ofNat b ↔ a < b := by rw [Int32.lt_iff_toInt_lt, own_on ha, own_on hb]; omega
theorem own_oneq {a b : Nat} (ha : a ≤ 4000) (hb : b ≤ 4000) : Int32.ofNat a = Int32.ofNat b ↔ a = b := by rw [← Int32.toInt_inj, own_on ha, own_on hb]; omega
theorem own_onz {a : Nat} (ha : a ≤ 4000) : Int32.ofNat a = (0 : Int32) ↔ a = 0 := by rw [← Int32.toInt_inj, own_on ha, own_i0]; omega
theorem own_onadd (a b : Nat) : Int32.ofNat a + Int32.ofNat b = Int32.ofNat (a + b) := by
  apply Int32.toBitVec_inj.mp
  simp [Int32.toBitVec_add, Int32.toBitVec_ofNat']
theorem own_onsub {a b : Nat} (hb : b ≤ a) (ha : a ≤ 4000) : Int32.ofNat a - Int32.ofNat b = Int32.ofNat (a - b) := by
  apply Int32.toInt_inj.mp
  have c := c_isub (Int32.ofNat a) (Int32.ofNat b)
  have r := rng32 (Int32.ofNat a - Int32.ofNat b)
  rw [own_on ha, own_on (Nat.le_trans hb ha)] at c
  rw [own_on (by omega)]
  omega
theorem own_onm1 {a : Nat} (hb : 1 ≤ a) (ha : a ≤ 4000) : Int32.ofNat a + (-1 : Int32) = Int32.ofNat (a - 1) := by
  apply Int32.toInt_inj.mp
  have c := c_iadd (Int32.ofNat a) (-1)
  have r := rng32 (Int32.ofNat a + (-1))
  have e : (-1 : Int32).toInt = -1 := by decide
  rw [own_on ha, e] at c
  rw [own_on (by omega)]
  omega
theorem own_lo2 (x : Int32) : nar .byte (StrChars.lo8 x) = StrChars.lo8 x := by
  show (x.toInt8.toInt32).toInt8.toInt32 = x.toInt8.toInt32
  simp
theorem own_mapat {cs : List Int32} {i : Nat} {d : Value} (hi : i < cs.length) : (cs.map Value.int).getD i d = .int (cs.getD i 0) := by
  simp [hi]
theorem own_getm {cs : List Int32} {i : Nat} (hi : i < cs.length) : cs.getD i 0 ∈ cs := by
  have : cs.getD i 0 = cs[i] := by simp [hi]
  rw [this]; exact List.getElem_mem hi
theorem own_shl1 {n : Nat} (h : n ≤ 4000) : Int32.ofNat n <<< ((1 : Int32) &&& 31) = Int32.ofNat (2 * n) := by
  apply Int32.toInt_inj.mp
  have c := c_ishl (Int32.ofNat n) 1 1 (by decide)
  have r := rng32 (Int32.ofNat n <<< ((1 : Int32) &&& 31))
  rw [own_on h] at c
  have e : (Int32.ofNat (2 * n)).toInt = ((2 * n : Nat) : Int) := Int32.toInt_ofNat_small (by omega)
  rw [e]
  simp only [Nat.reducePow] at c
  omega
theorem own_on2 {n : Nat} (h : n ≤ 4000) : (Int32.ofNat (2 * n)).toNatClampNeg = 2 * n := by
  have e : (Int32.ofNat (2 * n)).toInt = ((2 * n : Nat) : Int) := Int32.toInt_ofNat_small (by omega)
  unfold Int32.toNatClampNeg; rw [e]; omega
/-- the bytes of the chars that stand so far, the rest 0 -/
def own_wb (cs : List Int32) (i : Nat) : List Value := StrChars.Road.wideBytes (cs.take i) ++ List.replicate (2 * (cs.length - i)) (.int 0)
theorem own_wblen (cs : List Int32) : (StrChars.Road.wideBytes cs).length = 2 * cs.length := by
  induction cs with
  | nil => rfl
  | cons c cs ih => simp [StrChars.Road.wideBytes, ih]; omega
theorem own_wbl {cs : List Int32} {i : Nat} (hi : i ≤ cs.length) : (own_wb cs i).length = 2 * cs.length := by
  unfold own_wb; rw [List.length_append, own_wblen, List.length_replicate, List.length_take]; omega
theorem own_wb0 (cs : List Int32) : own_wb cs 0 = List.replicate (2 * cs.length) (.int 0) := by simp [own_wb, StrChars.Road.wideBytes]
theorem own_wbn (cs : List Int32) : own_wb cs cs.length = StrChars.Road.wideBytes cs := by simp [own_wb]
theorem own_wb_app (a b : List Int32) : StrChars.Road.wideBytes (a ++ b) = StrChars.Road.wideBytes a ++ StrChars.Road.wideBytes b := by
  induction a with
  | nil => rfl
  | cons c a ih => simp [StrChars.Road.wideBytes, ih]
theorem own_wbs {cs : List Int32} {i : Nat} (hi : i < cs.length) : ((own_wb cs i).set (2 * i) (.int (StrChars.lo8 (cs.getD i 0)))).set (2 * i + 1) (.int (StrChars.hi8 (cs.getD i 0))) = own_wb cs (i + 1) := by
  have e1 : (StrChars.Road.wideBytes (cs.take i)).length = 2 * i := by rw [own_wblen, List.length_take]; omega
  have e2 : cs.take (i + 1) = cs.take i ++ [cs.getD i 0] := by
    rw [List.take_add_one]
    have : cs[i]? = some (cs.getD i 0) := by simp [hi]
    rw [this]; rfl
  have e3 : 2 * (cs.length - i) = 2 * (cs.length - (i + 1)) + 1 + 1 := by omega
  unfold own_wb
  rw [e2, own_wb_app, e3, List.replicate_succ, List.replicate_succ, List.set_append_right _ _ (by omega), e1, Nat.sub_self, List.set_cons_zero, List.set_append_right _ _ (by omega), e1]
  rw [show 2 * i + 1 - 2 * i = 1 by omega]
  simp [StrChars.Road.wideBytes]
theorem own_pair {c : Int32} (h : ¬ c < 0 ∧ ¬ (65535 : Int32) < c) : (((StrChars.lo8 c &&& (255 : Int32)) <<< ((0 : Int32) &&& 31)) ||| ((StrChars.hi8 c &&& (255 : Int32)) <<< ((8 : Int32) &&& 31))).toUInt32.toUInt16.toUInt32.toInt32 = c := StrChars.pair_says h.1 h.2
theorem own_narc16 {x : Int32} (h : ¬ x < 0 ∧ ¬ (65535 : Int32) < x) : nar .char x = x := by
  have c := c_i2c x
  have r := rng32 x
  have e : (65535 : Int32).toInt = 65535 := by decide
  simp only [Int32.lt_iff_toInt_lt, e, own_i0] at h
  apply Int32.toInt_inj.mp
  show (x.toUInt32.toUInt16.toUInt32.toInt32).toInt = x.toInt
  omega
theorem own_chr8 {c : Int32} (h0 : ¬ c < 0) (h1 : ¬ (255 : Int32) < c) : (StrChars.lo8 c &&& (255 : Int32)).toUInt32.toUInt16.toUInt32.toInt32 = c := StrChars.chr8_lo8 h0 h1
/-- the coder that two lengths tell -/
theorem own_cod0 (n : Nat) : (((Int32.ofNat n - Int32.ofNat n).toUInt32 >>> ((31 : Int32) &&& 31).toUInt32).toInt32).toInt8.toInt32 = 0 := by
  rw [Int32.sub_self]; decide
theorem own_cod1 {n : Nat} (h0 : 0 < n) (h4 : n ≤ 4) : (((Int32.ofNat n - Int32.ofNat (2 * n)).toUInt32 >>> ((31 : Int32) &&& 31).toUInt32).toInt32).toInt8.toInt32 = 1 := by
  have : n = 1 ∨ n = 2 ∨ n = 3 ∨ n = 4 := by omega
  rcases this with rfl | rfl | rfl | rfl <;> decide
theorem own_hs {cs : List Int32} {i : Nat} {vs : List Value} (hi : i < cs.length) (hl : vs.length = cs.length) (h : vs.take i = (cs.take i).map fun c => Value.int (StrChars.lo8 c)) : (vs.set i (.int (StrChars.lo8 (cs.getD i 0)))).take (i + 1) = (cs.take (i + 1)).map fun c => Value.int (StrChars.lo8 c) := by
  have e1 : cs.take (i + 1) = cs.take i ++ [cs.getD i 0] := by
    rw [List.take_add_one]
    have : cs[i]? = some (cs.getD i 0) := by simp [hi]
    rw [this]; rfl
  have e2 : (vs.set i (.int (StrChars.lo8 (cs.getD i 0))))[i]? = some (.int (StrChars.lo8 (cs.getD i 0))) := by
    rw [List.getElem?_set_self (by omega)]
  rw [List.take_add_one, e2, e1, List.map_append, List.take_set_of_le (Nat.le_refl _), h]; rfl
theorem own_latend {cs : List Int32} {vs : List Value} (hl : vs.length = cs.length) (h : vs.take cs.length = (cs.take cs.length).map fun c => Value.int (StrChars.lo8 c)) : vs = cs.map fun c => Value.int (StrChars.lo8 c) := by
  rw [List.take_of_length_le (by omega), List.take_of_length_le (Nat.le_refl _)] at h; exact h
theorem own_all255 {cs : List Int32} (h : ∀ j, j < cs.length → ¬ (255 : Int32) < cs.getD j 0) : ∀ c ∈ cs, ¬ (255 : Int32) < c := fun c hc => by
  obtain ⟨j, hj, rfl⟩ := List.getElem_of_mem hc
  have := h j hj
  simpa [hj] using this
theorem own_nea {Z : State} {a0 : Array Value} {h : Heap} {a : Addr} {k : ClassId} {z : Int32} {vs : List Value} {d : Value} {kI : Nat} (wi : (Jvm.Cond.instantiable "java/lang/String" kI).before a0 Z = true) (E : Exa Z h a "java/lang/String") (V : Arv Z h a k .byte z vs d) : False := by
  obtain ⟨c1, A, -⟩ := V
  exact ne_arr E wi A rfl
theorem own_cdn {cs : List Int32} {cd M2 : Int32} {vs : List Value} (h : StrChars.Road.CodA cs cd M2 vs) : nar .byte cd = cd := by
  rcases h with ⟨rfl, -⟩ | ⟨rfl, -⟩ <;> rfl
theorem own_cfl {cs : List Int32} {cd M2 : Int32} {vs : List Value} {nN : Nat} (hcd : StrChars.Road.CodA cs cd M2 vs) (hl : cs.length = nN) (h0n : 0 < nN) (hN4 : nN ≤ 4) : some (Value.int (nar .byte (((Int32.ofNat nN - M2).toUInt32 >>> ((31 : Int32) &&& 31).toUInt32).toInt32).toInt8.toInt32)) = some (.int cd) := by
  rcases hcd with ⟨rfl, rfl, -, -⟩ | ⟨rfl, rfl, -, -⟩
  · rw [hl, own_cod0]; rfl
  · rw [hl, own_cod1 h0n hN4]; rfl
theorem own_hwl {a0 : Array Value} {Z : State} (hw : ∀ d ∈ tables_1, d.before a0 Z = true) : ∀ d ∈ StrChars.Road.wordsLen, d.before a0 Z = true := fun d hd => hw d ((by decide +kernel : ∀ d ∈ StrChars.Road.wordsLen, d ∈ tables_1) d hd)
theorem own_hwe {a0 : Array Value} {Z : State} (hw : ∀ d ∈ tables_1, d.before a0 Z = true) : ∀ d ∈ StrChars.Road.wordsEmp, d.before a0 Z = true := fun d hd => hw d ((by decide +kernel : ∀ d ∈ StrChars.Road.wordsEmp, d ∈ tables_1) d hd)
abbrev own_bd (c : Int32) : Prop := c = (43 : Int32) ∨ c = (35 : Int32) ∨ c = (0 : Int32)
abbrev own_wc (cs : List Int32) : Prop := (43 : Int32) ∈ cs ∨ (35 : Int32) ∈ cs
abbrev own_vt (cs : List Int32) : Prop := ¬ cs.length = 0 ∧ ¬ own_wc cs ∧ ¬ (0 : Int32) ∈ cs
theorem own_vtT {cs : List Int32} (h0 : ¬ cs.length = 0) (h : ∀ x ∈ cs, ¬ own_bd x) : own_vt cs := ⟨h0, fun q => q.elim (fun q => h _ q (Or.inl rfl)) (fun q => h _ q (Or.inr (Or.inl rfl))), fun q => h _ q (Or.inr (Or.inr rfl))⟩
theorem own_vtF {cs : List Int32} {x : Int32} (hm : x ∈ cs) (h : own_bd x) : ¬ own_vt cs := fun q => by
  rcases h with rfl | rfl | rfl
  · exact q.2.1 (Or.inl hm)
  · exact q.2.1 (Or.inr hm)
  · exact q.2.2 hm
def own_pick (x : Int32) : Int32 := if ((x.toUInt32 >>> ((16 : Int32) &&& 31).toUInt32).toInt32 &&& (3 : Int32)) = (0 : Int32) then 0 else if ((x.toUInt32 >>> ((16 : Int32) &&& 31).toUInt32).toInt32 &&& (3 : Int32)) = (1 : Int32) then 43 else if ((x.toUInt32 >>> ((16 : Int32) &&& 31).toUInt32).toInt32 &&& (3 : Int32)) = (2 : Int32) then 35 else (x &&& (65535 : Int32)).toUInt32.toUInt16.toUInt32.toInt32
theorem own_c16 (x : Int32) : ¬ ((x &&& (65535 : Int32)).toUInt32.toUInt16.toUInt32.toInt32) < 0 ∧ ¬ (65535 : Int32) < ((x &&& (65535 : Int32)).toUInt32.toUInt16.toUInt32.toInt32) := by
  have c := c_i2c (x &&& (65535 : Int32))
  have e : (65535 : Int32).toInt = 65535 := by decide
  simp only [Int32.lt_iff_toInt_lt, e, own_i0]
  omega
theorem own_pickr (x : Int32) : ¬ own_pick x < 0 ∧ ¬ (65535 : Int32) < own_pick x := by
  unfold own_pick
  by_cases h1 : ((x.toUInt32 >>> ((16 : Int32) &&& 31).toUInt32).toInt32 &&& (3 : Int32)) = (0 : Int32)
  · rw [if_pos h1]; decide
  rw [if_neg h1]
  by_cases h2 : ((x.toUInt32 >>> ((16 : Int32) &&& 31).toUInt32).toInt32 &&& (3 : Int32)) = (1 : Int32)
  · rw [if_pos h2]; decide
  rw [if_neg h2]
  by_cases h3 : ((x.toUInt32 >>> ((16 : Int32) &&& 31).toUInt32).toInt32 &&& (3 : Int32)) = (2 : Int32)
  · rw [if_pos h3]; decide
  rw [if_neg h3]
  exact own_c16 x
theorem own_four (x : Int32) : (x &&& (3 : Int32)) = 0 ∨ (x &&& (3 : Int32)) = 1 ∨ (x &&& (3 : Int32)) = 2 ∨ (x &&& (3 : Int32)) = 3 := by
  have c := c_and x (3 : Int32) (by decide)
  have e0 : (0 : Int32).toInt = 0 := by decide
  have e1 : (1 : Int32).toInt = 1 := by decide
  have e2 : (2 : Int32).toInt = 2 := by decide
  have e3 : (3 : Int32).toInt = 3 := by decide
  simp only [← Int32.toInt_inj, e0, e1, e2, e3] at *
  omega
theorem own_lo8inj {a b : Int32} (ha : ¬ a < 0) (ha2 : ¬ (255 : Int32) < a) (hb : ¬ b < 0) (hb2 : ¬ (255 : Int32) < b) (h : StrChars.lo8 a = StrChars.lo8 b) : a = b := by
  rw [← own_chr8 ha ha2, ← own_chr8 hb hb2, h]
theorem own_ixF {cs : List Int32} {n : Nat} {q : Int32} (hl : cs.length = n) (h : ∀ j, j < n → ¬ cs.getD j 0 = q) : ((-1 : Int32) < 0 ↔ ¬ q ∈ cs) := by
  refine ⟨fun _ hm => ?_, fun _ => by decide⟩
  obtain ⟨j, hj, e⟩ := List.getElem_of_mem hm
  exact h j (by omega) (by simpa [List.getD_eq_getElem?_getD, hj] using e)
theorem own_ixT {cs : List Int32} {i : Nat} {q : Int32} (hi : i < cs.length) (h4 : i ≤ 4000) (h : cs.getD i 0 = q) : (Int32.ofNat i < 0 ↔ ¬ q ∈ cs) :=
  ⟨fun a => absurd a (own_on0 h4), fun a => absurd (h ▸ own_getm hi) a⟩
theorem own_lt64 {q : Int32} (h : ¬ (255 : Int32) < q) : q < (65536 : Int32) := by
  have e : (65536 : Int32).toInt = 65536 := by decide
  simp only [Int32.lt_iff_toInt_lt, e, own_i255] at *; omega
theorem own_irr (a : Int32) : ¬ a < a := fun h => by rw [Int32.lt_iff_toInt_lt] at h; omega
set_option maxRecDepth 65536 in
set_option maxHeartbeats 40000000 in
theorem rm_ul (l : Launch) (Z : State) (a0 : Array Value) (hw : ∀ d ∈ tables_1, d.before a0 Z = true) (hE : EW Z a0 ELx) (b1 : Addr) (kb : ClassId) (nN : Nat) (vs : List Value) (h0 : Heap) (O0 : Ext Z.heap h0) (V1 : Arv Z h0 b1 kb .byte (Int32.ofNat (2 * nN)) vs (.int 0)) (hN4 : nN ≤ 4) :
    Ct l Z ELx a0 true (⟨"java/lang/StringUTF16", "length", "([B)I"⟩ : MethodName) jdk_52_method_6_code 1 (some .int) [] ({ frames := 0, cells := 0, slots := 0, locals := 0 } : Room) #[(.ref b1)] h0 [] (fun _ => []) (fun v h => v = some (.int (Int32.ofNat nN)) ∧ h0 = h) := by
  refine own_enter (plainFor_of_name pn_0) hE O0 ?_
  intro p e s m below meth c s₁ hx hby hml hown hnm hret hlk H0
  refine Go.eq (ef_rm_ul m b1) ?_
  show Go p e below _ s₁ (mkF m 0 #[.val (.ref b1)] [])
  refine Go.of (fun _ => XS.aloadN H0.here hx rfl (hb hby d_jdk_52_6_0) rfl rfl) ?_
  show Go p e below _ s₁ (mkF m 1 #[.val (.ref b1)] [(.ref b1)])
  refine own_len H0 hx V1 rfl rfl (hb hby d_jdk_52_6_1) ?_
  show Go p e below _ s₁ (mkF m 2 #[.val (.ref b1)] [(.int (Int32.ofNat (2 * nN)))])
  refine Go.of (fun _ => XS.iconst H0.here hx rfl (hb hby d_jdk_52_6_2)) ?_
  show Go p e below _ s₁ (mkF m 3 #[.val (.ref b1)] [(.int (1 : Int32)), (.int (Int32.ofNat (2 * nN)))])
  refine Go.of (fun _ => XS.ishr H0.here hx rfl (hb hby d_jdk_52_6_3) rfl) ?_
  show Go p e below _ s₁ (mkF m 4 #[.val (.ref b1)] [(.int ((Int32.ofNat (2 * nN)) >>> ((1 : Int32) &&& 31)))])
  exact own_retI H0 hx hlk hret (hb hby d_jdk_52_6_4) all0 ⟨by rw [StrChars.shr1 (by omega)], rfl⟩ (by decide) (by decide)
set_option maxRecDepth 65536 in
set_option maxHeartbeats 40000000 in
theorem rm_put (l : Launch) (Z : State) (a0 : Array Value) (hw : ∀ d ∈ tables_1, d.before a0 Z = true) (hE : EW Z a0 ELx) (b1 : Addr) (kb : ClassId) (nN : Nat) (vs : List Value) (iN : Nat) (p2 : Int32) (h0 : Heap) (O0 : Ext Z.heap h0) (V1 : Arv Z h0 b1 kb .byte (Int32.ofNat (2 * nN)) vs (.int 0)) (hN4 : nN ≤ 4) (hv : vs.length = 2 * nN) (hi : iN < nN) (g1 : Z.heap.size ≤ b1) (SA : Sta Z Z.heap "java/lang/StringUTF16" "$assertionsDisabled" "Z" (.int 1)) (SHB : Sta Z Z.heap "java/lang/StringUTF16" "HI_BYTE_SHIFT" "I" (.int 0)) (SLB : Sta Z Z.heap "java/lang/StringUTF16" "LO_BYTE_SHIFT" "I" (.int 8)) :
    Ct l Z ELx a0 true (⟨"java/lang/StringUTF16", "putChar", "([BII)V"⟩ : MethodName) jdk_52_method_4_code 3 none [] ({ frames := 0, cells := 0, slots := 0, locals := 0 } : Room) #[(.ref b1), (.int (Int32.ofNat iN)), (.int p2)] h0 [b1] (fun _ => []) (fun v h => v = none ∧ Keep h0 h [b1] ∧ Arv Z h b1 kb .byte (Int32.ofNat (2 * nN)) ((vs.set (2 * iN) (.int (StrChars.lo8 p2))).set (2 * iN + 1) (.int (StrChars.hi8 p2))) (.int 0)) := by
  refine own_enter (plainFor_of_name pn_0) hE O0 ?_
  intro p e s m below meth c s₁ hx hby hml hown hnm hret hlk H0
  refine Go.eq (ef_rm_put m b1 (Int32.ofNat iN) p2) ?_
  have K1 : Keep h0 h0 [b1] := Keep.refl _ _
  show Go p e below _ s₁ (mkF m 0 #[.val (.ref b1), .val (.int (Int32.ofNat iN)), .val (.int p2)] [])
  refine own_getS H0 hx hown (host := "") (Or.inl (ow hw 108 rfl)) Via.refl SA rfl (hb hby d_jdk_52_4_0) fun T2 H3 => ?_
  show Go p e below _ T2 (mkF m 3 #[.val (.ref b1), .val (.int (Int32.ofNat iN)), .val (.int p2)] [(.int (1 : Int32))])
  refine Go.of (fun _ => XS.ifYes H3.here hx rfl (pc0 := 3) (pc' := 28) rfl (hb hby d_jdk_52_4_3) rfl ((if0 _ _).trans (feq (by decide : ¬ ((1 : Int32) = (0 : Int32)))).2) (by decide) (by decide)) ?_
  show Go p e below _ T2 (mkF m 28 #[.val (.ref b1), .val (.int (Int32.ofNat iN)), .val (.int p2)] [])
  refine Go.of (fun _ => XS.iloadN H3.here hx rfl (hb hby d_jdk_52_4_28) rfl) ?_
  show Go p e below _ T2 (mkF m 29 #[.val (.ref b1), .val (.int (Int32.ofNat iN)), .val (.int p2)] [(.int (Int32.ofNat iN))])
  refine Go.of (fun _ => XS.iconst H3.here hx rfl (hb hby d_jdk_52_4_29)) ?_
  show Go p e below _ T2 (mkF m 30 #[.val (.ref b1), .val (.int (Int32.ofNat iN)), .val (.int p2)] [(.int (1 : Int32)), (.int (Int32.ofNat iN))])
  refine Go.of (fun _ => XS.ishl H3.here hx rfl (hb hby d_jdk_52_4_30) rfl) ?_
  show Go p e below _ T2 (mkF m 31 #[.val (.ref b1), .val (.int (Int32.ofNat iN)), .val (.int p2)] [(.int ((Int32.ofNat iN) <<< ((1 : Int32) &&& 31)))])
  rw [own_shl1 (by omega)]
  show Go p e below _ T2 (mkF m 31 #[.val (.ref b1), .val (.int (Int32.ofNat iN)), .val (.int p2)] [(.int (Int32.ofNat (2 * iN)))])
  refine Go.of (fun _ => XS.istoreN H3.here hx rfl (hb hby d_jdk_52_4_31) rfl (l' := #[.val (.ref b1), .val (.int (Int32.ofNat (2 * iN))), .val (.int p2)]) rfl) ?_
  show Go p e below _ T2 (mkF m 32 #[.val (.ref b1), .val (.int (Int32.ofNat (2 * iN))), .val (.int p2)] [])
  refine Go.of (fun _ => XS.aloadN H3.here hx rfl (hb hby d_jdk_52_4_32) rfl rfl) ?_
  show Go p e below _ T2 (mkF m 33 #[.val (.ref b1), .val (.int (Int32.ofNat (2 * iN))), .val (.int p2)] [(.ref b1)])
  refine Go.of (fun _ => XS.iloadN H3.here hx rfl (hb hby d_jdk_52_4_33) rfl) ?_
  show Go p e below _ T2 (mkF m 34 #[.val (.ref b1), .val (.int (Int32.ofNat (2 * iN))), .val (.int p2)] [(.int (Int32.ofNat (2 * iN))), (.ref b1)])
  refine Go.of (fun _ => XS.iinc H3.here hx rfl (hb hby d_jdk_52_4_34) rfl (l' := #[.val (.ref b1), .val (.int ((Int32.ofNat (2 * iN)) + (1 : Int32))), .val (.int p2)]) rfl) ?_
  show Go p e below _ T2 (mkF m 37 #[.val (.ref b1), .val (.int ((Int32.ofNat (2 * iN)) + (1 : Int32))), .val (.int p2)] [(.int (Int32.ofNat (2 * iN))), (.ref b1)])
  rw [show (Int32.ofNat (2 * iN)) + (1 : Int32) = (Int32.ofNat (2 * iN + 1)) from own_onadd (2 * iN) 1]
  show Go p e below _ T2 (mkF m 37 #[.val (.ref b1), .val (.int (Int32.ofNat (2 * iN + 1))), .val (.int p2)] [(.int (Int32.ofNat (2 * iN))), (.ref b1)])
  refine Go.of (fun _ => XS.iloadN H3.here hx rfl (hb hby d_jdk_52_4_37) rfl) ?_
  show Go p e below _ T2 (mkF m 38 #[.val (.ref b1), .val (.int (Int32.ofNat (2 * iN + 1))), .val (.int p2)] [(.int p2), (.int (Int32.ofNat (2 * iN))), (.ref b1)])
  refine own_getS H3 hx hown (host := "") (Or.inl (ow hw 109 rfl)) Via.refl SHB rfl (hb hby d_jdk_52_4_38) fun T4 H5 => ?_
  show Go p e below _ T4 (mkF m 41 #[.val (.ref b1), .val (.int (Int32.ofNat (2 * iN + 1))), .val (.int p2)] [(.int (0 : Int32)), (.int p2), (.int (Int32.ofNat (2 * iN))), (.ref b1)])
  refine Go.of (fun _ => XS.ishr H5.here hx rfl (hb hby d_jdk_52_4_41) rfl) ?_
  show Go p e below _ T4 (mkF m 42 #[.val (.ref b1), .val (.int (Int32.ofNat (2 * iN + 1))), .val (.int p2)] [(.int (p2 >>> ((0 : Int32) &&& 31))), (.int (Int32.ofNat (2 * iN))), (.ref b1)])
  refine Go.of (fun _ => XS.i2b H5.here hx rfl (hb hby d_jdk_52_4_42) rfl) ?_
  show Go p e below _ T4 (mkF m 43 #[.val (.ref b1), .val (.int (Int32.ofNat (2 * iN + 1))), .val (.int p2)] [(.int ((p2 >>> ((0 : Int32) &&& 31)).toInt8.toInt32)), (.int (Int32.ofNat (2 * iN))), (.ref b1)])
  refine own_bastore H5 hx V1 ⟨own_on0 (by omega), (own_onlt (by omega) (by omega)).mpr (by omega)⟩ (2 * iN) (own_onc (by omega)) (by omega) g1 (own_mem (List.mem_of_getElem? (i := 0) rfl)) rfl rfl (hb hby d_jdk_52_4_43) fun T6 h8 H7 W9 V10 => ?_
  have K11 : Keep h0 h8 [b1] := K1.wr W9 (Or.inl (List.mem_of_getElem? (i := 0) rfl))
  rw [show nar .byte (p2 >>> ((0 : Int32) &&& 31)).toInt8.toInt32 = StrChars.lo8 p2 from by rw [StrChars.shr0]; exact own_lo2 p2] at V10
  show Go p e below _ T6 (mkF m 44 #[.val (.ref b1), .val (.int (Int32.ofNat (2 * iN + 1))), .val (.int p2)] [])
  refine Go.of (fun _ => XS.aloadN H7.here hx rfl (hb hby d_jdk_52_4_44) rfl rfl) ?_
  show Go p e below _ T6 (mkF m 45 #[.val (.ref b1), .val (.int (Int32.ofNat (2 * iN + 1))), .val (.int p2)] [(.ref b1)])
  refine Go.of (fun _ => XS.iloadN H7.here hx rfl (hb hby d_jdk_52_4_45) rfl) ?_
  show Go p e below _ T6 (mkF m 46 #[.val (.ref b1), .val (.int (Int32.ofNat (2 * iN + 1))), .val (.int p2)] [(.int (Int32.ofNat (2 * iN + 1))), (.ref b1)])
  refine Go.of (fun _ => XS.iloadN H7.here hx rfl (hb hby d_jdk_52_4_46) rfl) ?_
  show Go p e below _ T6 (mkF m 47 #[.val (.ref b1), .val (.int (Int32.ofNat (2 * iN + 1))), .val (.int p2)] [(.int p2), (.int (Int32.ofNat (2 * iN + 1))), (.ref b1)])
  refine own_getS H7 hx hown (host := "") (Or.inl (ow hw 110 rfl)) Via.refl SLB rfl (hb hby d_jdk_52_4_47) fun T13 H14 => ?_
  show Go p e below _ T13 (mkF m 50 #[.val (.ref b1), .val (.int (Int32.ofNat (2 * iN + 1))), .val (.int p2)] [(.int (8 : Int32)), (.int p2), (.int (Int32.ofNat (2 * iN + 1))), (.ref b1)])
  refine Go.of (fun _ => XS.ishr H14.here hx rfl (hb hby d_jdk_52_4_50) rfl) ?_
  show Go p e below _ T13 (mkF m 51 #[.val (.ref b1), .val (.int (Int32.ofNat (2 * iN + 1))), .val (.int p2)] [(.int (p2 >>> ((8 : Int32) &&& 31))), (.int (Int32.ofNat (2 * iN + 1))), (.ref b1)])
  refine Go.of (fun _ => XS.i2b H14.here hx rfl (hb hby d_jdk_52_4_51) rfl) ?_
  show Go p e below _ T13 (mkF m 52 #[.val (.ref b1), .val (.int (Int32.ofNat (2 * iN + 1))), .val (.int p2)] [(.int ((p2 >>> ((8 : Int32) &&& 31)).toInt8.toInt32)), (.int (Int32.ofNat (2 * iN + 1))), (.ref b1)])
  refine own_bastore H14 hx V10 ⟨own_on0 (by omega), (own_onlt (by omega) (by omega)).mpr (by omega)⟩ (2 * iN + 1) (own_onc (by omega)) (by rw [List.length_set]; omega) g1 (own_mem (List.mem_of_getElem? (i := 0) rfl)) rfl rfl (hb hby d_jdk_52_4_52) fun T15 h17 H16 W18 V19 => ?_
  have K20 : Keep h0 h17 [b1] := K11.wr W18 (Or.inl (List.mem_of_getElem? (i := 0) rfl))
  rw [show nar .byte (p2 >>> ((8 : Int32) &&& 31)).toInt8.toInt32 = StrChars.hi8 p2 from own_lo2 _] at V19
  show Go p e below _ T15 (mkF m 53 #[.val (.ref b1), .val (.int (Int32.ofNat (2 * iN + 1))), .val (.int p2)] [])
  exact own_ret H16 hx hlk hret (hb hby d_jdk_52_4_53) all0 ⟨rfl, K20, V19⟩ (by decide) (by decide)
set_option maxRecDepth 65536 in
set_option maxHeartbeats 40000000 in
theorem rm_get (l : Launch) (Z : State) (a0 : Array Value) (hw : ∀ d ∈ tables_1, d.before a0 Z = true) (hE : EW Z a0 ELx) (b1 : Addr) (kb : ClassId) (nN : Nat) (vs : List Value) (iN : Nat) (x1 : Int32) (h0 : Heap) (O0 : Ext Z.heap h0) (V1 : Arv Z h0 b1 kb .byte (Int32.ofNat (2 * nN)) vs (.int 0)) (hN4 : nN ≤ 4) (hi : iN < nN) (hlo : vs.getD (2 * iN) (.int 0) = .int (StrChars.lo8 x1)) (hhi : vs.getD (2 * iN + 1) (.int 0) = .int (StrChars.hi8 x1)) (hx1 : ¬ x1 < 0 ∧ ¬ (65535 : Int32) < x1) (SA : Sta Z Z.heap "java/lang/StringUTF16" "$assertionsDisabled" "Z" (.int 1)) (SHB : Sta Z Z.heap "java/lang/StringUTF16" "HI_BYTE_SHIFT" "I" (.int 0)) (SLB : Sta Z Z.heap "java/lang/StringUTF16" "LO_BYTE_SHIFT" "I" (.int 8)) :
    Ct l Z ELx a0 true (⟨"java/lang/StringUTF16", "getChar", "([BI)C"⟩ : MethodName) jdk_52_method_5_code 2 (some .char) [] ({ frames := 0, cells := 0, slots := 0, locals := 0 } : Room) #[(.ref b1), (.int (Int32.ofNat iN))] h0 [] (fun _ => []) (fun v h => v = some (.int x1) ∧ h0 = h) := by
  refine own_enter (plainFor_of_name pn_0) hE O0 ?_
  intro p e s m below meth c s₁ hx hby hml hown hnm hret hlk H0
  refine Go.eq (ef_rm_get m b1 (Int32.ofNat iN)) ?_
  show Go p e below _ s₁ (mkF m 0 #[.val (.ref b1), .val (.int (Int32.ofNat iN))] [])
  refine own_getS H0 hx hown (host := "") (Or.inl (ow hw 108 rfl)) Via.refl SA rfl (hb hby d_jdk_52_5_0) fun T1 H2 => ?_
  show Go p e below _ T1 (mkF m 3 #[.val (.ref b1), .val (.int (Int32.ofNat iN))] [(.int (1 : Int32))])
  refine Go.of (fun _ => XS.ifYes H2.here hx rfl (pc0 := 3) (pc' := 28) rfl (hb hby d_jdk_52_5_3) rfl ((if0 _ _).trans (feq (by decide : ¬ ((1 : Int32) = (0 : Int32)))).2) (by decide) (by decide)) ?_
  show Go p e below _ T1 (mkF m 28 #[.val (.ref b1), .val (.int (Int32.ofNat iN))] [])
  refine Go.of (fun _ => XS.iloadN H2.here hx rfl (hb hby d_jdk_52_5_28) rfl) ?_
  show Go p e below _ T1 (mkF m 29 #[.val (.ref b1), .val (.int (Int32.ofNat iN))] [(.int (Int32.ofNat iN))])
  refine Go.of (fun _ => XS.iconst H2.here hx rfl (hb hby d_jdk_52_5_29)) ?_
  show Go p e below _ T1 (mkF m 30 #[.val (.ref b1), .val (.int (Int32.ofNat iN))] [(.int (1 : Int32)), (.int (Int32.ofNat iN))])
  refine Go.of (fun _ => XS.ishl H2.here hx rfl (hb hby d_jdk_52_5_30) rfl) ?_
  show Go p e below _ T1 (mkF m 31 #[.val (.ref b1), .val (.int (Int32.ofNat iN))] [(.int ((Int32.ofNat iN) <<< ((1 : Int32) &&& 31)))])
  rw [own_shl1 (by omega)]
  show Go p e below _ T1 (mkF m 31 #[.val (.ref b1), .val (.int (Int32.ofNat iN))] [(.int (Int32.ofNat (2 * iN)))])
  refine Go.of (fun _ => XS.istoreN H2.here hx rfl (hb hby d_jdk_52_5_31) rfl (l' := #[.val (.ref b1), .val (.int (Int32.ofNat (2 * iN)))]) rfl) ?_
  show Go p e below _ T1 (mkF m 32 #[.val (.ref b1), .val (.int (Int32.ofNat (2 * iN)))] [])
  refine Go.of (fun _ => XS.aloadN H2.here hx rfl (hb hby d_jdk_52_5_32) rfl rfl) ?_
  show Go p e below _ T1 (mkF m 33 #[.val (.ref b1), .val (.int (Int32.ofNat (2 * iN)))] [(.ref b1)])
  refine Go.of (fun _ => XS.iloadN H2.here hx rfl (hb hby d_jdk_52_5_33) rfl) ?_
  show Go p e below _ T1 (mkF m 34 #[.val (.ref b1), .val (.int (Int32.ofNat (2 * iN)))] [(.int (Int32.ofNat (2 * iN))), (.ref b1)])
  refine Go.of (fun _ => XS.iinc H2.here hx rfl (hb hby d_jdk_52_5_34) rfl (l' := #[.val (.ref b1), .val (.int ((Int32.ofNat (2 * iN)) + (1 : Int32)))]) rfl) ?_
  show Go p e below _ T1 (mkF m 37 #[.val (.ref b1), .val (.int ((Int32.ofNat (2 * iN)) + (1 : Int32)))] [(.int (Int32.ofNat (2 * iN))), (.ref b1)])
  refine own_baload H2 hx V1 ⟨own_on0 (by omega), (own_onlt (by omega) (by omega)).mpr (by omega)⟩ (v := (.int (StrChars.lo8 x1))) (by rw [own_onc (by omega)]; exact hlo) rfl rfl (hb hby d_jdk_52_5_37) ?_
  show Go p e below _ T1 (mkF m 38 #[.val (.ref b1), .val (.int ((Int32.ofNat (2 * iN)) + (1 : Int32)))] [(.int (StrChars.lo8 x1))])
  refine Go.of (fun _ => XS.sipush H2.here hx rfl (hb hby d_jdk_52_5_38)) ?_
  show Go p e below _ T1 (mkF m 41 #[.val (.ref b1), .val (.int ((Int32.ofNat (2 * iN)) + (1 : Int32)))] [(.int (255 : Int32)), (.int (StrChars.lo8 x1))])
  refine Go.of (fun _ => XS.iand H2.here hx rfl (hb hby d_jdk_52_5_41) rfl) ?_
  show Go p e below _ T1 (mkF m 42 #[.val (.ref b1), .val (.int ((Int32.ofNat (2 * iN)) + (1 : Int32)))] [(.int ((StrChars.lo8 x1) &&& (255 : Int32)))])
  refine own_getS H2 hx hown (host := "") (Or.inl (ow hw 109 rfl)) Via.refl SHB rfl (hb hby d_jdk_52_5_42) fun T3 H4 => ?_
  show Go p e below _ T3 (mkF m 45 #[.val (.ref b1), .val (.int ((Int32.ofNat (2 * iN)) + (1 : Int32)))] [(.int (0 : Int32)), (.int ((StrChars.lo8 x1) &&& (255 : Int32)))])
  refine Go.of (fun _ => XS.ishl H4.here hx rfl (hb hby d_jdk_52_5_45) rfl) ?_
  show Go p e below _ T3 (mkF m 46 #[.val (.ref b1), .val (.int ((Int32.ofNat (2 * iN)) + (1 : Int32)))] [(.int (((StrChars.lo8 x1) &&& (255 : Int32)) <<< ((0 : Int32) &&& 31)))])
  rw [show (Int32.ofNat (2 * iN)) + (1 : Int32) = (Int32.ofNat (2 * iN + 1)) from own_onadd (2 * iN) 1]
  show Go p e below _ T3 (mkF m 46 #[.val (.ref b1), .val (.int (Int32.ofNat (2 * iN + 1)))] [(.int (((StrChars.lo8 x1) &&& (255 : Int32)) <<< ((0 : Int32) &&& 31)))])
  refine Go.of (fun _ => XS.aloadN H4.here hx rfl (hb hby d_jdk_52_5_46) rfl rfl) ?_
  show Go p e below _ T3 (mkF m 47 #[.val (.ref b1), .val (.int (Int32.ofNat (2 * iN + 1)))] [(.ref b1), (.int (((StrChars.lo8 x1) &&& (255 : Int32)) <<< ((0 : Int32) &&& 31)))])
  refine Go.of (fun _ => XS.iloadN H4.here hx rfl (hb hby d_jdk_52_5_47) rfl) ?_
  show Go p e below _ T3 (mkF m 48 #[.val (.ref b1), .val (.int (Int32.ofNat (2 * iN + 1)))] [(.int (Int32.ofNat (2 * iN + 1))), (.ref b1), (.int (((StrChars.lo8 x1) &&& (255 : Int32)) <<< ((0 : Int32) &&& 31)))])
  refine own_baload H4 hx V1 ⟨own_on0 (by omega), (own_onlt (by omega) (by omega)).mpr (by omega)⟩ (v := (.int (StrChars.hi8 x1))) (by rw [own_onc (by omega)]; exact hhi) rfl rfl (hb hby d_jdk_52_5_48) ?_
  show Go p e below _ T3 (mkF m 49 #[.val (.ref b1), .val (.int (Int32.ofNat (2 * iN + 1)))] [(.int (StrChars.hi8 x1)), (.int (((StrChars.lo8 x1) &&& (255 : Int32)) <<< ((0 : Int32) &&& 31)))])
  refine Go.of (fun _ => XS.sipush H4.here hx rfl (hb hby d_jdk_52_5_49)) ?_
  show Go p e below _ T3 (mkF m 52 #[.val (.ref b1), .val (.int (Int32.ofNat (2 * iN + 1)))] [(.int (255 : Int32)), (.int (StrChars.hi8 x1)), (.int (((StrChars.lo8 x1) &&& (255 : Int32)) <<< ((0 : Int32) &&& 31)))])
  refine Go.of (fun _ => XS.iand H4.here hx rfl (hb hby d_jdk_52_5_52) rfl) ?_
  show Go p e below _ T3 (mkF m 53 #[.val (.ref b1), .val (.int (Int32.ofNat (2 * iN + 1)))] [(.int ((StrChars.hi8 x1) &&& (255 : Int32))), (.int (((StrChars.lo8 x1) &&& (255 : Int32)) <<< ((0 : Int32) &&& 31)))])
  refine own_getS H4 hx hown (host := "") (Or.inl (ow hw 110 rfl)) Via.refl SLB rfl (hb hby d_jdk_52_5_53) fun T5 H6 => ?_
  show Go p e below _ T5 (mkF m 56 #[.val (.ref b1), .val (.int (Int32.ofNat (2 * iN + 1)))] [(.int (8 : Int32)), (.int ((StrChars.hi8 x1) &&& (255 : Int32))), (.int (((StrChars.lo8 x1) &&& (255 : Int32)) <<< ((0 : Int32) &&& 31)))])
  refine Go.of (fun _ => XS.ishl H6.here hx rfl (hb hby d_jdk_52_5_56) rfl) ?_
  show Go p e below _ T5 (mkF m 57 #[.val (.ref b1), .val (.int (Int32.ofNat (2 * iN + 1)))] [(.int (((StrChars.hi8 x1) &&& (255 : Int32)) <<< ((8 : Int32) &&& 31))), (.int (((StrChars.lo8 x1) &&& (255 : Int32)) <<< ((0 : Int32) &&& 31)))])
  refine Go.of (fun _ => XS.ior H6.here hx rfl (hb hby d_jdk_52_5_57) rfl) ?_
  show Go p e below _ T5 (mkF m 58 #[.val (.ref b1), .val (.int (Int32.ofNat (2 * iN + 1)))] [(.int ((((StrChars.lo8 x1) &&& (255 : Int32)) <<< ((0 : Int32) &&& 31)) ||| (((StrChars.hi8 x1) &&& (255 : Int32)) <<< ((8 : Int32) &&& 31))))])
  refine Go.of (fun _ => XS.i2c H6.here hx rfl (hb hby d_jdk_52_5_58) rfl) ?_
  show Go p e below _ T5 (mkF m 59 #[.val (.ref b1), .val (.int (Int32.ofNat (2 * iN + 1)))] [(.int (((((StrChars.lo8 x1) &&& (255 : Int32)) <<< ((0 : Int32) &&& 31)) ||| (((StrChars.hi8 x1) &&& (255 : Int32)) <<< ((8 : Int32) &&& 31))).toUInt32.toUInt16.toUInt32.toInt32))])
  exact own_retN H6 hx hlk (t := .char) hret (by simp) (hb hby d_jdk_52_5_59) all0 ⟨by rw [own_pair hx1, own_narc16 hx1], rfl⟩ (by decide) (by decide)
set_option maxRecDepth 65536 in
set_option maxHeartbeats 40000000 in
theorem rm_nbl (l : Launch) (Z : State) (a0 : Array Value) (hw : ∀ d ∈ tables_1, d.before a0 Z = true) (hE : EW Z a0 ELx) (nN : Nat) (h0 : Heap) (O0 : Ext Z.heap h0) (hN4 : nN ≤ 4) :
    Ct l Z ELx a0 true (⟨"java/lang/StringUTF16", "newBytesLength", "(I)I"⟩ : MethodName) jdk_52_method_3_code 1 (some .int) [] ({ frames := 0, cells := 0, slots := 0, locals := 0 } : Room) #[(.int (Int32.ofNat nN))] h0 [] (fun _ => []) (fun v h => v = some (.int (Int32.ofNat (2 * nN))) ∧ h0 = h) := by
  refine own_enter (plainFor_of_name pn_0) hE O0 ?_
  intro p e s m below meth c s₁ hx hby hml hown hnm hret hlk H0
  refine Go.eq (ef_rm_nbl m (Int32.ofNat nN)) ?_
  show Go p e below _ s₁ (mkF m 0 #[.val (.int (Int32.ofNat nN))] [])
  refine Go.of (fun _ => XS.iloadN H0.here hx rfl (hb hby d_jdk_52_3_0) rfl) ?_
  show Go p e below _ s₁ (mkF m 1 #[.val (.int (Int32.ofNat nN))] [(.int (Int32.ofNat nN))])
  refine Go.of (fun _ => XS.ifYes H0.here hx rfl (pc0 := 1) (pc' := 12) rfl (hb hby d_jdk_52_3_1) rfl ((if0 _ _).trans (flt (own_on0 (by omega))).2.1) (by decide) (by decide)) ?_
  show Go p e below _ s₁ (mkF m 12 #[.val (.int (Int32.ofNat nN))] [])
  refine Go.of (fun _ => XS.iloadN H0.here hx rfl (hb hby d_jdk_52_3_12) rfl) ?_
  show Go p e below _ s₁ (mkF m 13 #[.val (.int (Int32.ofNat nN))] [(.int (Int32.ofNat nN))])
  refine own_ldcI H0 hx hown (ow hw 104 rfl) rfl (hb hby d_jdk_52_3_13) ?_
  show Go p e below _ s₁ (mkF m 15 #[.val (.int (Int32.ofNat nN))] [(.int (1073741823 : Int32)), (.int (Int32.ofNat nN))])
  refine Go.of (fun _ => XS.icmpYes H0.here hx rfl (pc0 := 15) (pc' := 55) rfl (hb hby d_jdk_52_3_15) rfl (tlt (by rw [Int32.lt_iff_toInt_lt, own_on (by omega), show (1073741823 : Int32).toInt = 1073741823 from by decide]; omega)).1 (by decide) (by decide)) ?_
  show Go p e below _ s₁ (mkF m 55 #[.val (.int (Int32.ofNat nN))] [])
  refine Go.of (fun _ => XS.iloadN H0.here hx rfl (hb hby d_jdk_52_3_55) rfl) ?_
  show Go p e below _ s₁ (mkF m 56 #[.val (.int (Int32.ofNat nN))] [(.int (Int32.ofNat nN))])
  refine Go.of (fun _ => XS.iconst H0.here hx rfl (hb hby d_jdk_52_3_56)) ?_
  show Go p e below _ s₁ (mkF m 57 #[.val (.int (Int32.ofNat nN))] [(.int (1 : Int32)), (.int (Int32.ofNat nN))])
  refine Go.of (fun _ => XS.ishl H0.here hx rfl (hb hby d_jdk_52_3_57) rfl) ?_
  show Go p e below _ s₁ (mkF m 58 #[.val (.int (Int32.ofNat nN))] [(.int ((Int32.ofNat nN) <<< ((1 : Int32) &&& 31)))])
  exact own_retI H0 hx hlk hret (hb hby d_jdk_52_3_58) all0 ⟨by rw [own_shl1 (by omega)], rfl⟩ (by decide) (by decide)
set_option maxRecDepth 65536 in
set_option maxHeartbeats 40000000 in
theorem rm_nbf (l : Launch) (Z : State) (a0 : Array Value) (hw : ∀ d ∈ tables_1, d.before a0 Z = true) (hE : EW Z a0 ELx) (nN : Nat) (h0 : Heap) (O0 : Ext Z.heap h0) (hN4 : nN ≤ 4) :
    Ct l Z ELx a0 true (⟨"java/lang/StringUTF16", "newBytesFor", "(I)[B"⟩ : MethodName) jdk_52_method_2_code 1 (some (.array .byte)) [] ({ frames := 1, cells := 1, slots := 8, locals := 12 } : Room) #[(.int (Int32.ofNat nN))] h0 [] (fun v => match v with | some (.ref r) => [r] | _ => []) (fun v h => ∃ r kr, v = some (.ref r) ∧ Keep h0 h [] ∧ h0.size ≤ r ∧ Z.heap.size ≤ r ∧ Arv Z h r kr .byte (Int32.ofNat (2 * nN)) [] (.int 0)) := by
  refine own_enter (plainFor_of_name pn_0) hE O0 ?_
  intro p e s m below meth c s₁ hx hby hml hown hnm hret hlk H0
  refine Go.eq (ef_rm_nbf m (Int32.ofNat nN)) ?_
  have K1 : Keep h0 h0 [] := Keep.refl _ _
  show Go p e below _ s₁ (mkF m 0 #[.val (.int (Int32.ofNat nN))] [])
  refine Go.of (fun _ => XS.iloadN H0.here hx rfl (hb hby d_jdk_52_2_0) rfl) ?_
  show Go p e below _ s₁ (mkF m 1 #[.val (.int (Int32.ofNat nN))] [(.int (Int32.ofNat nN))])
  refine own_staticW H0 hx (y := (⟨"java/lang/StringUTF16", "newBytesLength", "(I)I"⟩ : MethodName)) hown (ow hw 101 rfl) (ow hw 102 rfl) (ow hw 38 rfl) (ow hw 103 rfl) (by decide) (W := 0) (rm_nbl l Z a0 hw hE nN h0 H0.old hN4) (fun _ hq => nomatch hq) (by decide) (by decide) rfl (by rw [hml]; rfl) (argsL := [(.int (Int32.ofNat nN))]) (rest := []) rfl (lenOf pd_0 rfl) rfl (by show 2 * 0 + _ ≤ _; exact Nat.le_of_eq rfl) (hb hby d_jdk_52_2_1) (by decide) (by decide) fun T2 h4 v6 H3 hs7 q5 => ?_
  obtain ⟨ve9, e8⟩ := q5
  subst e8
  subst ve9
  show Go p e below _ T2 (mkF m 4 #[.val (.int (Int32.ofNat nN))] [(.int (Int32.ofNat (2 * nN)))])
  refine own_newP H3 hx (ow hw 19 rfl) rfl (hb hby d_jdk_52_2_4) rfl (own_on0 (by omega)) (cap := 8) (by rw [own_onc (by omega)]; omega) (by decide) (by decide) (by decide) fun T10 h12 b13 kA16 g14 H11 E15 V17 => ?_
  have fr18 : Z.heap.size ≤ b13 := by rw [g14]; exact H3.old.1
  have sz19 : h0.size ≤ b13 := by rw [g14]; exact K1.1
  have K20 : Keep h0 h12 [] := K1.ext E15
  have V21 : Arv Z h12 b13 kA16 .byte (Int32.ofNat (2 * nN)) [] (.int (0 : Int32)) := V17
  show Go p e below _ T10 (mkF m 6 #[.val (.int (Int32.ofNat nN))] [(.ref b13)])
  exact own_retA H11 hx hlk hret rfl rfl (hb hby d_jdk_52_2_6) (allS (List.mem_of_getElem? (i := 0) rfl) all0) ⟨b13, _, rfl, K20, sz19, fr18, V21⟩ (by decide) (by decide)
set_option maxRecDepth 65536 in
set_option maxHeartbeats 40000000 in
theorem rm_tob (l : Launch) (Z : State) (a0 : Array Value) (hw : ∀ d ∈ tables_1, d.before a0 Z = true) (hE : EW Z a0 ELx) (b1 : Addr) (kc : ClassId) (nN : Nat) (cs : List Int32) (dc : Value) (h0 : Heap) (O0 : Ext Z.heap h0) (V1 : Arv Z h0 b1 kc .char (Int32.ofNat nN) (cs.map Value.int) dc) (hl : cs.length = nN) (hN4 : nN ≤ 4) (hp : ∀ c ∈ cs, ¬ c < 0 ∧ ¬ (65535 : Int32) < c) (SA : Sta Z Z.heap "java/lang/StringUTF16" "$assertionsDisabled" "Z" (.int 1)) (SHB : Sta Z Z.heap "java/lang/StringUTF16" "HI_BYTE_SHIFT" "I" (.int 0)) (SLB : Sta Z Z.heap "java/lang/StringUTF16" "LO_BYTE_SHIFT" "I" (.int 8)) :
    Ct l Z ELx a0 true (⟨"java/lang/StringUTF16", "toBytes", "([CII)[B"⟩ : MethodName) jdk_52_method_14_code 5 (some (.array .byte)) [] ({ frames := 2, cells := 1, slots := 8, locals := 40 } : Room) #[(.ref b1), (.int (0 : Int32)), (.int (Int32.ofNat nN))] h0 [] (fun v => match v with | some (.ref r) => [r] | _ => []) (fun v h => ∃ r kr, v = some (.ref r) ∧ Keep h0 h [] ∧ h0.size ≤ r ∧ Z.heap.size ≤ r ∧ Arv Z h r kr .byte (Int32.ofNat (2 * nN)) (StrChars.Road.wideBytes cs) (.int 0)) := by
  refine own_enter (plainFor_of_name pn_0) hE O0 ?_
  intro p e s m below meth c s₁ hx hby hml hown hnm hret hlk H0
  refine Go.eq (ef_rm_tob m b1 (0 : Int32) (Int32.ofNat nN)) ?_
  have K1 : Keep h0 h0 [] := Keep.refl _ _
  show Go p e below _ s₁ (mkF m 0 #[.val (.ref b1), .val (.int (0 : Int32)), .val (.int (Int32.ofNat nN)), .unset, .unset] [])
  refine Go.of (fun _ => XS.iloadN H0.here hx rfl (hb hby d_jdk_52_14_0) rfl) ?_
  show Go p e below _ s₁ (mkF m 1 #[.val (.ref b1), .val (.int (0 : Int32)), .val (.int (Int32.ofNat nN)), .unset, .unset] [(.int (Int32.ofNat nN))])
  refine own_staticW H0 hx (y := (⟨"java/lang/StringUTF16", "newBytesFor", "(I)[B"⟩ : MethodName)) hown (ow hw 98 rfl) (ow hw 99 rfl) (ow hw 38 rfl) (ow hw 100 rfl) (by decide) (W := 0) (rm_nbf l Z a0 hw hE nN h0 H0.old hN4) (fun _ hq => nomatch hq) (by decide) (by decide) rfl (by rw [hml]; rfl) (argsL := [(.int (Int32.ofNat nN))]) (rest := []) rfl (lenOf pd_1 rfl) rfl (by show 2 * 0 + _ ≤ _; exact Nat.le_of_eq rfl) (hb hby d_jdk_52_14_1) (by decide) (by decide) fun T2 h4 v6 H3 hs7 q5 => ?_
  obtain ⟨r1, kr1, rfl, KN, zr1, gr1, VN⟩ := q5
  have K8 : Keep h0 h4 [] := K1.trans KN all0
  have ne9 : b1 ≠ r1 := Nat.ne_of_lt (Nat.lt_of_lt_of_le V1.lt zr1)
  have f10 := V1.keep KN nin0
  have VW : Arv Z h4 r1 kr1 .byte (Int32.ofNat (2 * nN)) (own_wb cs 0) (.int 0) := VN.pad (by rw [own_wb0]; simpa using pad_rep [] (.int (0 : Int32)) (2 * cs.length))
  show Go p e below _ T2 (mkF m 4 #[.val (.ref b1), .val (.int (0 : Int32)), .val (.int (Int32.ofNat nN)), .unset, .unset] [(.ref r1)])
  refine Go.of (fun _ => XS.astoreN H3.here hx rfl (hb hby d_jdk_52_14_4) rfl rfl (l' := #[.val (.ref b1), .val (.int (0 : Int32)), .val (.int (Int32.ofNat nN)), .val (.ref r1), .unset]) rfl) ?_
  show Go p e below _ T2 (mkF m 5 #[.val (.ref b1), .val (.int (0 : Int32)), .val (.int (Int32.ofNat nN)), .val (.ref r1), .unset] [])
  have LB : ∀ (k1 i1 : Nat) (T : State) (h : Heap), (i1 + k1 = nN) → (Wk p l e ({ frames := 2, cells := 1, slots := 8, locals := 40 } : Room) s m #[(.ref b1), (.int (0 : Int32)), (.int (Int32.ofNat nN))] below meth c Z ELx a0 true T h 1 8 [r1]) → (Keep h0 h []) → (Arv Z h b1 kc .char (Int32.ofNat nN) (cs.map Value.int) dc) → (Arv Z h r1 kr1 .byte (Int32.ofNat (2 * nN)) (own_wb cs i1) (.int 0)) → Go p e below (own_fin Z ELx true s below (fun v h => ∃ r kr, v = some (.ref r) ∧ Keep h0 h [] ∧ h0.size ≤ r ∧ Z.heap.size ≤ r ∧ Arv Z h r kr .byte (Int32.ofNat (2 * nN)) (StrChars.Road.wideBytes cs) (.int 0)) (({ frames := 2, cells := 1, slots := 8, locals := 40 } : Room)).cells (({ frames := 2, cells := 1, slots := 8, locals := 40 } : Room)).slots (fun v => match v with | some (.ref r) => [r] | _ => [])) T (mkF m 8 #[.val (.ref b1), .val (.int (Int32.ofNat i1)), .val (.int (Int32.ofNat nN)), .val (.ref r1), .val (.int (Int32.ofNat i1))] []) := by
    intro k1
    induction k1 with
    | zero =>
      intro i1 T h hk1 H K1 VB VR
      have hlt : ¬ (Int32.ofNat i1) < (Int32.ofNat nN) := by rw [own_onlt (by omega) (by omega)]; omega
      show Go p e below _ T (mkF m 8 #[.val (.ref b1), .val (.int (Int32.ofNat i1)), .val (.int (Int32.ofNat nN)), .val (.ref r1), .val (.int (Int32.ofNat i1))] [])
      refine Go.of (fun _ => XS.iload H.here hx rfl (hb hby d_jdk_52_14_8) rfl) ?_
      show Go p e below _ T (mkF m 10 #[.val (.ref b1), .val (.int (Int32.ofNat i1)), .val (.int (Int32.ofNat nN)), .val (.ref r1), .val (.int (Int32.ofNat i1))] [(.int (Int32.ofNat i1))])
      refine Go.of (fun _ => XS.iloadN H.here hx rfl (hb hby d_jdk_52_14_10) rfl) ?_
      show Go p e below _ T (mkF m 11 #[.val (.ref b1), .val (.int (Int32.ofNat i1)), .val (.int (Int32.ofNat nN)), .val (.ref r1), .val (.int (Int32.ofNat i1))] [(.int (Int32.ofNat nN)), (.int (Int32.ofNat i1))])
      refine Go.of (fun _ => XS.icmpYes H.here hx rfl (pc0 := 11) (pc' := 32) rfl (hb hby d_jdk_52_14_11) rfl (flt hlt).2.1 (by decide) (by decide)) ?_
      show Go p e below _ T (mkF m 32 #[.val (.ref b1), .val (.int (Int32.ofNat i1)), .val (.int (Int32.ofNat nN)), .val (.ref r1), .val (.int (Int32.ofNat i1))] [])
      refine Go.of (fun _ => XS.aloadN H.here hx rfl (hb hby d_jdk_52_14_32) rfl rfl) ?_
      show Go p e below _ T (mkF m 33 #[.val (.ref b1), .val (.int (Int32.ofNat i1)), .val (.int (Int32.ofNat nN)), .val (.ref r1), .val (.int (Int32.ofNat i1))] [(.ref r1)])
      exact own_retA H hx hlk hret rfl rfl (hb hby d_jdk_52_14_33) (allS (List.mem_of_getElem? (i := 0) rfl) all0) ⟨r1, kr1, rfl, K1, zr1, gr1, by have := VR; rw [show i1 = cs.length by omega, own_wbn] at this; exact this⟩ (by decide) (by decide)
    | succ k1 ih =>
      intro i1 T h hk1 H K1 VB VR
      have hlt : (Int32.ofNat i1) < (Int32.ofNat nN) := by rw [own_onlt (by omega) (by omega)]; omega
      show Go p e below _ T (mkF m 8 #[.val (.ref b1), .val (.int (Int32.ofNat i1)), .val (.int (Int32.ofNat nN)), .val (.ref r1), .val (.int (Int32.ofNat i1))] [])
      refine Go.of (fun _ => XS.iload H.here hx rfl (hb hby d_jdk_52_14_8) rfl) ?_
      show Go p e below _ T (mkF m 10 #[.val (.ref b1), .val (.int (Int32.ofNat i1)), .val (.int (Int32.ofNat nN)), .val (.ref r1), .val (.int (Int32.ofNat i1))] [(.int (Int32.ofNat i1))])
      refine Go.of (fun _ => XS.iloadN H.here hx rfl (hb hby d_jdk_52_14_10) rfl) ?_
      show Go p e below _ T (mkF m 11 #[.val (.ref b1), .val (.int (Int32.ofNat i1)), .val (.int (Int32.ofNat nN)), .val (.ref r1), .val (.int (Int32.ofNat i1))] [(.int (Int32.ofNat nN)), (.int (Int32.ofNat i1))])
      refine Go.of (fun _ => XS.icmpNo H.here hx rfl (hb hby d_jdk_52_14_11) rfl (tlt hlt).2.1) ?_
      show Go p e below _ T (mkF m 14 #[.val (.ref b1), .val (.int (Int32.ofNat i1)), .val (.int (Int32.ofNat nN)), .val (.ref r1), .val (.int (Int32.ofNat i1))] [])
      refine Go.of (fun _ => XS.aloadN H.here hx rfl (hb hby d_jdk_52_14_14) rfl rfl) ?_
      show Go p e below _ T (mkF m 15 #[.val (.ref b1), .val (.int (Int32.ofNat i1)), .val (.int (Int32.ofNat nN)), .val (.ref r1), .val (.int (Int32.ofNat i1))] [(.ref r1)])
      refine Go.of (fun _ => XS.iload H.here hx rfl (hb hby d_jdk_52_14_15) rfl) ?_
      show Go p e below _ T (mkF m 17 #[.val (.ref b1), .val (.int (Int32.ofNat i1)), .val (.int (Int32.ofNat nN)), .val (.ref r1), .val (.int (Int32.ofNat i1))] [(.int (Int32.ofNat i1)), (.ref r1)])
      refine Go.of (fun _ => XS.aloadN H.here hx rfl (hb hby d_jdk_52_14_17) rfl rfl) ?_
      show Go p e below _ T (mkF m 18 #[.val (.ref b1), .val (.int (Int32.ofNat i1)), .val (.int (Int32.ofNat nN)), .val (.ref r1), .val (.int (Int32.ofNat i1))] [(.ref b1), (.int (Int32.ofNat i1)), (.ref r1)])
      refine Go.of (fun _ => XS.iloadN H.here hx rfl (hb hby d_jdk_52_14_18) rfl) ?_
      show Go p e below _ T (mkF m 19 #[.val (.ref b1), .val (.int (Int32.ofNat i1)), .val (.int (Int32.ofNat nN)), .val (.ref r1), .val (.int (Int32.ofNat i1))] [(.int (Int32.ofNat i1)), (.ref b1), (.int (Int32.ofNat i1)), (.ref r1)])
      refine own_caload H hx VB ⟨own_on0 (by omega), (own_onlt (by omega) (by omega)).mpr (by omega)⟩ (v := (.int (cs.getD i1 0))) (by rw [own_onc (by omega)]; exact own_mapat (by omega)) rfl rfl (hb hby d_jdk_52_14_19) ?_
      show Go p e below _ T (mkF m 20 #[.val (.ref b1), .val (.int (Int32.ofNat i1)), .val (.int (Int32.ofNat nN)), .val (.ref r1), .val (.int (Int32.ofNat i1))] [(.int (cs.getD i1 0)), (.int (Int32.ofNat i1)), (.ref r1)])
      refine own_staticW H hx (y := (⟨"java/lang/StringUTF16", "putChar", "([BII)V"⟩ : MethodName)) hown (ow hw 105 rfl) (ow hw 106 rfl) (ow hw 38 rfl) (ow hw 107 rfl) (by decide) (W := 0) (rm_put l Z a0 hw hE r1 kr1 nN (own_wb cs i1) i1 (cs.getD i1 0) h H.old VR hN4 (by rw [own_wbl (by omega), hl]) (by omega) gr1 SA SHB SLB) (allS (List.mem_of_getElem? (i := 0) rfl) all0) (by decide) (by decide) rfl (by rw [hml]; rfl) (argsL := [(.ref r1), (.int (Int32.ofNat i1)), (.int (cs.getD i1 0))]) (rest := []) rfl (lenOf pd_2 rfl) rfl (by show 2 * 0 + _ ≤ _; exact Nat.le_of_eq rfl) (hb hby d_jdk_52_14_20) (by decide) (by decide) fun T11 h13 v15 H12 hs16 q14 => ?_
      obtain ⟨rfl, K17, V18⟩ := q14
      rw [own_wbs (by omega)] at V18
      have K19 : Keep h0 h13 [] := K1.trans K17 (allS (Or.inr zr1) all0)
      have f20 := VB.keep K17 (ninS ne9 nin0)
      show Go p e below _ T11 (mkF m 23 #[.val (.ref b1), .val (.int (Int32.ofNat i1)), .val (.int (Int32.ofNat nN)), .val (.ref r1), .val (.int (Int32.ofNat i1))] [])
      refine Go.of (fun _ => XS.iinc H12.here hx rfl (hb hby d_jdk_52_14_23) rfl (l' := #[.val (.ref b1), .val (.int ((Int32.ofNat i1) + (1 : Int32))), .val (.int (Int32.ofNat nN)), .val (.ref r1), .val (.int (Int32.ofNat i1))]) rfl) ?_
      show Go p e below _ T11 (mkF m 26 #[.val (.ref b1), .val (.int ((Int32.ofNat i1) + (1 : Int32))), .val (.int (Int32.ofNat nN)), .val (.ref r1), .val (.int (Int32.ofNat i1))] [])
      refine Go.of (fun _ => XS.iinc H12.here hx rfl (hb hby d_jdk_52_14_26) rfl (l' := #[.val (.ref b1), .val (.int ((Int32.ofNat i1) + (1 : Int32))), .val (.int (Int32.ofNat nN)), .val (.ref r1), .val (.int ((Int32.ofNat i1) + (1 : Int32)))]) rfl) ?_
      show Go p e below _ T11 (mkF m 29 #[.val (.ref b1), .val (.int ((Int32.ofNat i1) + (1 : Int32))), .val (.int (Int32.ofNat nN)), .val (.ref r1), .val (.int ((Int32.ofNat i1) + (1 : Int32)))] [])
      refine Go.of (fun _ => XS.goto H12.here hx rfl (pc0 := 29) (pc' := 8) rfl (hb hby d_jdk_52_14_29) (by decide) (by decide)) ?_
      show Go p e below _ T11 (mkF m 8 #[.val (.ref b1), .val (.int ((Int32.ofNat i1) + (1 : Int32))), .val (.int (Int32.ofNat nN)), .val (.ref r1), .val (.int ((Int32.ofNat i1) + (1 : Int32)))] [])
      rw [show (Int32.ofNat i1) + (1 : Int32) = Int32.ofNat (i1 + 1) from own_onadd i1 1]
      exact ih (i1 + 1) T11 h13 (by omega) H12 K19 f20 V18
  show Go p e below _ T2 (mkF m 5 #[.val (.ref b1), .val (.int (0 : Int32)), .val (.int (Int32.ofNat nN)), .val (.ref r1), .unset] [])
  refine Go.of (fun _ => XS.iconst H3.here hx rfl (hb hby d_jdk_52_14_5)) ?_
  show Go p e below _ T2 (mkF m 6 #[.val (.ref b1), .val (.int (0 : Int32)), .val (.int (Int32.ofNat nN)), .val (.ref r1), .unset] [(.int (0 : Int32))])
  refine Go.of (fun _ => XS.istore H3.here hx rfl (hb hby d_jdk_52_14_6) rfl (l' := #[.val (.ref b1), .val (.int (0 : Int32)), .val (.int (Int32.ofNat nN)), .val (.ref r1), .val (.int (0 : Int32))]) rfl) ?_
  show Go p e below _ T2 (mkF m 8 #[.val (.ref b1), .val (.int (0 : Int32)), .val (.int (Int32.ofNat nN)), .val (.ref r1), .val (.int (0 : Int32))] [])
  exact LB nN 0 T2 h4 (Nat.zero_add _) H3 K8 f10 VW
set_option maxRecDepth 65536 in
set_option maxHeartbeats 40000000 in
theorem rm_cp2 (l : Launch) (Z : State) (a0 : Array Value) (hw : ∀ d ∈ tables_1, d.before a0 Z = true) (hE : EW Z a0 ELx) (b1 : Addr) (kc : ClassId) (nN : Nat) (cs : List Int32) (dc : Value) (t1 : Addr) (kt : ClassId) (h0 : Heap) (O0 : Ext Z.heap h0) (V1 : Arv Z h0 b1 kc .char (Int32.ofNat nN) (cs.map Value.int) dc) (hl : cs.length = nN) (hN4 : nN ≤ 4) (hp : ∀ c ∈ cs, ¬ c < 0 ∧ ¬ (65535 : Int32) < c) (V2 : Arv Z h0 t1 kt .byte (Int32.ofNat nN) [] (.int 0)) (hne : b1 ≠ t1) (g1 : Z.heap.size ≤ t1) :
    Ct l Z ELx a0 true (⟨"java/lang/StringUTF16", "compress", "([CI[BII)I"⟩ : MethodName) jdk_52_method_21_code 7 (some .int) [] ({ frames := 0, cells := 0, slots := 0, locals := 0 } : Room) #[(.ref b1), (.int (0 : Int32)), (.ref t1), (.int (0 : Int32)), (.int (Int32.ofNat nN))] h0 [t1] (fun _ => []) (fun v h => ∃ (jN : Nat) (vs : List Value), v = some (.int (Int32.ofNat jN)) ∧ Keep h0 h [t1] ∧ Arv Z h t1 kt .byte (Int32.ofNat nN) vs (.int 0) ∧ ((jN = nN ∧ vs = (cs.map fun c => Value.int (StrChars.lo8 c)) ∧ ∀ c ∈ cs, ¬ (255 : Int32) < c) ∨ (jN < nN ∧ (255 : Int32) < cs.getD jN 0))) := by
  refine own_enter (plainFor_of_name pn_0) hE O0 ?_
  intro p e s m below meth c s₁ hx hby hml hown hnm hret hlk H0
  refine Go.eq (ef_rm_cp2 m b1 (0 : Int32) t1 (0 : Int32) (Int32.ofNat nN)) ?_
  have K1 : Keep h0 h0 [t1] := Keep.refl _ _
  have LC : ∀ (k1 i1 : Nat) (T : State) (h : Heap) (s6 : Slot) (vs : List Value), (i1 + k1 = nN) → (Wk p l e ({ frames := 0, cells := 0, slots := 0, locals := 0 } : Room) s m #[(.ref b1), (.int (0 : Int32)), (.ref t1), (.int (0 : Int32)), (.int (Int32.ofNat nN))] below meth c Z ELx a0 true T h 0 0 [t1]) → (Keep h0 h [t1]) → (Arv Z h b1 kc .char (Int32.ofNat nN) (cs.map Value.int) dc) → (Arv Z h t1 kt .byte (Int32.ofNat nN) vs (.int 0)) → (s6 = .unset ∨ ∃ y, s6 = .val (.int y)) → (vs.length = nN) → (vs.take i1 = (cs.take i1).map fun c => Value.int (StrChars.lo8 c)) → (∀ j, j < i1 → ¬ (255 : Int32) < cs.getD j 0) → Go p e below (own_fin Z ELx true s below (fun v h => ∃ (jN : Nat) (vs : List Value), v = some (.int (Int32.ofNat jN)) ∧ Keep h0 h [t1] ∧ Arv Z h t1 kt .byte (Int32.ofNat nN) vs (.int 0) ∧ ((jN = nN ∧ vs = (cs.map fun c => Value.int (StrChars.lo8 c)) ∧ ∀ c ∈ cs, ¬ (255 : Int32) < c) ∨ (jN < nN ∧ (255 : Int32) < cs.getD jN 0))) (({ frames := 0, cells := 0, slots := 0, locals := 0 } : Room)).cells (({ frames := 0, cells := 0, slots := 0, locals := 0 } : Room)).slots (fun _ => [])) T (mkF m 3 #[.val (.ref b1), .val (.int (Int32.ofNat i1)), .val (.ref t1), .val (.int (Int32.ofNat i1)), .val (.int (Int32.ofNat nN)), .val (.int (Int32.ofNat i1)), s6] []) := by
    intro k1
    induction k1 with
    | zero =>
      intro i1 T h s6 vs hk1 H K1 VB VR hs6 hvl htk h255
      have hlt : ¬ (Int32.ofNat i1) < (Int32.ofNat nN) := by rw [own_onlt (by omega) (by omega)]; omega
      show Go p e below _ T (mkF m 3 #[.val (.ref b1), .val (.int (Int32.ofNat i1)), .val (.ref t1), .val (.int (Int32.ofNat i1)), .val (.int (Int32.ofNat nN)), .val (.int (Int32.ofNat i1)), s6] [])
      refine Go.of (fun _ => XS.iload H.here hx rfl (hb hby d_jdk_52_21_3) rfl) ?_
      show Go p e below _ T (mkF m 5 #[.val (.ref b1), .val (.int (Int32.ofNat i1)), .val (.ref t1), .val (.int (Int32.ofNat i1)), .val (.int (Int32.ofNat nN)), .val (.int (Int32.ofNat i1)), s6] [(.int (Int32.ofNat i1))])
      refine Go.of (fun _ => XS.iload H.here hx rfl (hb hby d_jdk_52_21_5) rfl) ?_
      show Go p e below _ T (mkF m 7 #[.val (.ref b1), .val (.int (Int32.ofNat i1)), .val (.ref t1), .val (.int (Int32.ofNat i1)), .val (.int (Int32.ofNat nN)), .val (.int (Int32.ofNat i1)), s6] [(.int (Int32.ofNat nN)), (.int (Int32.ofNat i1))])
      refine Go.of (fun _ => XS.icmpYes H.here hx rfl (pc0 := 7) (pc' := 44) rfl (hb hby d_jdk_52_21_7) rfl (flt hlt).2.1 (by decide) (by decide)) ?_
      show Go p e below _ T (mkF m 44 #[.val (.ref b1), .val (.int (Int32.ofNat i1)), .val (.ref t1), .val (.int (Int32.ofNat i1)), .val (.int (Int32.ofNat nN)), .val (.int (Int32.ofNat i1)), s6] [])
      refine Go.of (fun _ => XS.iload H.here hx rfl (hb hby d_jdk_52_21_44) rfl) ?_
      show Go p e below _ T (mkF m 46 #[.val (.ref b1), .val (.int (Int32.ofNat i1)), .val (.ref t1), .val (.int (Int32.ofNat i1)), .val (.int (Int32.ofNat nN)), .val (.int (Int32.ofNat i1)), s6] [(.int (Int32.ofNat nN))])
      exact own_retI H hx hlk hret (hb hby d_jdk_52_21_46) all0 ⟨nN, vs, rfl, K1, VR, Or.inl ⟨rfl, own_latend (by omega) (by have := htk; rw [show i1 = cs.length by omega] at this; exact this), own_all255 (fun j hj => h255 j (by omega))⟩⟩ (by decide) (by decide)
    | succ k1 ih =>
      intro i1 T h s6 vs hk1 H K1 VB VR hs6 hvl htk h255
      have hlt : (Int32.ofNat i1) < (Int32.ofNat nN) := by rw [own_onlt (by omega) (by omega)]; omega
      show Go p e below _ T (mkF m 3 #[.val (.ref b1), .val (.int (Int32.ofNat i1)), .val (.ref t1), .val (.int (Int32.ofNat i1)), .val (.int (Int32.ofNat nN)), .val (.int (Int32.ofNat i1)), s6] [])
      refine Go.of (fun _ => XS.iload H.here hx rfl (hb hby d_jdk_52_21_3) rfl) ?_
      show Go p e below _ T (mkF m 5 #[.val (.ref b1), .val (.int (Int32.ofNat i1)), .val (.ref t1), .val (.int (Int32.ofNat i1)), .val (.int (Int32.ofNat nN)), .val (.int (Int32.ofNat i1)), s6] [(.int (Int32.ofNat i1))])
      refine Go.of (fun _ => XS.iload H.here hx rfl (hb hby d_jdk_52_21_5) rfl) ?_
      show Go p e below _ T (mkF m 7 #[.val (.ref b1), .val (.int (Int32.ofNat i1)), .val (.ref t1), .val (.int (Int32.ofNat i1)), .val (.int (Int32.ofNat nN)), .val (.int (Int32.ofNat i1)), s6] [(.int (Int32.ofNat nN)), (.int (Int32.ofNat i1))])
      refine Go.of (fun _ => XS.icmpNo H.here hx rfl (hb hby d_jdk_52_21_7) rfl (tlt hlt).2.1) ?_
      show Go p e below _ T (mkF m 10 #[.val (.ref b1), .val (.int (Int32.ofNat i1)), .val (.ref t1), .val (.int (Int32.ofNat i1)), .val (.int (Int32.ofNat nN)), .val (.int (Int32.ofNat i1)), s6] [])
      refine Go.of (fun _ => XS.aloadN H.here hx rfl (hb hby d_jdk_52_21_10) rfl rfl) ?_
      show Go p e below _ T (mkF m 11 #[.val (.ref b1), .val (.int (Int32.ofNat i1)), .val (.ref t1), .val (.int (Int32.ofNat i1)), .val (.int (Int32.ofNat nN)), .val (.int (Int32.ofNat i1)), s6] [(.ref b1)])
      refine Go.of (fun _ => XS.iloadN H.here hx rfl (hb hby d_jdk_52_21_11) rfl) ?_
      show Go p e below _ T (mkF m 12 #[.val (.ref b1), .val (.int (Int32.ofNat i1)), .val (.ref t1), .val (.int (Int32.ofNat i1)), .val (.int (Int32.ofNat nN)), .val (.int (Int32.ofNat i1)), s6] [(.int (Int32.ofNat i1)), (.ref b1)])
      refine own_caload H hx VB ⟨own_on0 (by omega), (own_onlt (by omega) (by omega)).mpr (by omega)⟩ (v := (.int (cs.getD i1 0))) (by rw [own_onc (by omega)]; exact own_mapat (by omega)) rfl rfl (hb hby d_jdk_52_21_12) ?_
      show Go p e below _ T (mkF m 13 #[.val (.ref b1), .val (.int (Int32.ofNat i1)), .val (.ref t1), .val (.int (Int32.ofNat i1)), .val (.int (Int32.ofNat nN)), .val (.int (Int32.ofNat i1)), s6] [(.int (cs.getD i1 0))])
      refine Go.of (fun _ => XS.istore H.here hx rfl (hb hby d_jdk_52_21_13) rfl (l' := #[.val (.ref b1), .val (.int (Int32.ofNat i1)), .val (.ref t1), .val (.int (Int32.ofNat i1)), .val (.int (Int32.ofNat nN)), .val (.int (Int32.ofNat i1)), .val (.int (cs.getD i1 0))]) (by rcases hs6 with rfl | ⟨_, rfl⟩ <;> rfl)) ?_
      show Go p e below _ T (mkF m 15 #[.val (.ref b1), .val (.int (Int32.ofNat i1)), .val (.ref t1), .val (.int (Int32.ofNat i1)), .val (.int (Int32.ofNat nN)), .val (.int (Int32.ofNat i1)), .val (.int (cs.getD i1 0))] [])
      refine Go.of (fun _ => XS.iload H.here hx rfl (hb hby d_jdk_52_21_15) rfl) ?_
      show Go p e below _ T (mkF m 17 #[.val (.ref b1), .val (.int (Int32.ofNat i1)), .val (.ref t1), .val (.int (Int32.ofNat i1)), .val (.int (Int32.ofNat nN)), .val (.int (Int32.ofNat i1)), .val (.int (cs.getD i1 0))] [(.int (cs.getD i1 0))])
      refine Go.of (fun _ => XS.sipush H.here hx rfl (hb hby d_jdk_52_21_17)) ?_
      show Go p e below _ T (mkF m 20 #[.val (.ref b1), .val (.int (Int32.ofNat i1)), .val (.ref t1), .val (.int (Int32.ofNat i1)), .val (.int (Int32.ofNat nN)), .val (.int (Int32.ofNat i1)), .val (.int (cs.getD i1 0))] [(.int (255 : Int32)), (.int (cs.getD i1 0))])
      by_cases hbr2 : (255 : Int32) < (cs.getD i1 0)
      · skip
        refine Go.of (fun _ => XS.icmpNo H.here hx rfl (hb hby d_jdk_52_21_20) rfl (tlt hbr2).2.2.2) ?_
        show Go p e below _ T (mkF m 23 #[.val (.ref b1), .val (.int (Int32.ofNat i1)), .val (.ref t1), .val (.int (Int32.ofNat i1)), .val (.int (Int32.ofNat nN)), .val (.int (Int32.ofNat i1)), .val (.int (cs.getD i1 0))] [])
        refine Go.of (fun _ => XS.iload H.here hx rfl (hb hby d_jdk_52_21_23) rfl) ?_
        show Go p e below _ T (mkF m 25 #[.val (.ref b1), .val (.int (Int32.ofNat i1)), .val (.ref t1), .val (.int (Int32.ofNat i1)), .val (.int (Int32.ofNat nN)), .val (.int (Int32.ofNat i1)), .val (.int (cs.getD i1 0))] [(.int (Int32.ofNat i1))])
        exact own_retI H hx hlk hret (hb hby d_jdk_52_21_25) all0 ⟨i1, vs, rfl, K1, VR, Or.inr ⟨by omega, hbr2⟩⟩ (by decide) (by decide)
      · skip
        refine Go.of (fun _ => XS.icmpYes H.here hx rfl (pc0 := 20) (pc' := 26) rfl (hb hby d_jdk_52_21_20) rfl (flt hbr2).2.2.2 (by decide) (by decide)) ?_
        show Go p e below _ T (mkF m 26 #[.val (.ref b1), .val (.int (Int32.ofNat i1)), .val (.ref t1), .val (.int (Int32.ofNat i1)), .val (.int (Int32.ofNat nN)), .val (.int (Int32.ofNat i1)), .val (.int (cs.getD i1 0))] [])
        refine Go.of (fun _ => XS.aloadN H.here hx rfl (hb hby d_jdk_52_21_26) rfl rfl) ?_
        show Go p e below _ T (mkF m 27 #[.val (.ref b1), .val (.int (Int32.ofNat i1)), .val (.ref t1), .val (.int (Int32.ofNat i1)), .val (.int (Int32.ofNat nN)), .val (.int (Int32.ofNat i1)), .val (.int (cs.getD i1 0))] [(.ref t1)])
        refine Go.of (fun _ => XS.iloadN H.here hx rfl (hb hby d_jdk_52_21_27) rfl) ?_
        show Go p e below _ T (mkF m 28 #[.val (.ref b1), .val (.int (Int32.ofNat i1)), .val (.ref t1), .val (.int (Int32.ofNat i1)), .val (.int (Int32.ofNat nN)), .val (.int (Int32.ofNat i1)), .val (.int (cs.getD i1 0))] [(.int (Int32.ofNat i1)), (.ref t1)])
        refine Go.of (fun _ => XS.iload H.here hx rfl (hb hby d_jdk_52_21_28) rfl) ?_
        show Go p e below _ T (mkF m 30 #[.val (.ref b1), .val (.int (Int32.ofNat i1)), .val (.ref t1), .val (.int (Int32.ofNat i1)), .val (.int (Int32.ofNat nN)), .val (.int (Int32.ofNat i1)), .val (.int (cs.getD i1 0))] [(.int (cs.getD i1 0)), (.int (Int32.ofNat i1)), (.ref t1)])
        refine Go.of (fun _ => XS.i2b H.here hx rfl (hb hby d_jdk_52_21_30) rfl) ?_
        show Go p e below _ T (mkF m 31 #[.val (.ref b1), .val (.int (Int32.ofNat i1)), .val (.ref t1), .val (.int (Int32.ofNat i1)), .val (.int (Int32.ofNat nN)), .val (.int (Int32.ofNat i1)), .val (.int (cs.getD i1 0))] [(.int ((cs.getD i1 0).toInt8.toInt32)), (.int (Int32.ofNat i1)), (.ref t1)])
        refine own_bastore H hx VR ⟨own_on0 (by omega), (own_onlt (by omega) (by omega)).mpr (by omega)⟩ i1 (own_onc (by omega)) (by omega) g1 (own_mem (List.mem_of_getElem? (i := 0) rfl)) rfl rfl (hb hby d_jdk_52_21_31) fun T3 h5 H4 W6 V7 => ?_
        have K8 : Keep h0 h5 [t1] := K1.wr W6 (Or.inl (List.mem_of_getElem? (i := 0) rfl))
        have f9 := VB.other W6 hne
        rw [show nar .byte ((cs.getD i1 0).toInt8.toInt32) = StrChars.lo8 (cs.getD i1 0) from own_lo2 _] at V7
        show Go p e below _ T3 (mkF m 32 #[.val (.ref b1), .val (.int (Int32.ofNat i1)), .val (.ref t1), .val (.int (Int32.ofNat i1)), .val (.int (Int32.ofNat nN)), .val (.int (Int32.ofNat i1)), .val (.int (cs.getD i1 0))] [])
        refine Go.of (fun _ => XS.iinc H4.here hx rfl (hb hby d_jdk_52_21_32) rfl (l' := #[.val (.ref b1), .val (.int ((Int32.ofNat i1) + (1 : Int32))), .val (.ref t1), .val (.int (Int32.ofNat i1)), .val (.int (Int32.ofNat nN)), .val (.int (Int32.ofNat i1)), .val (.int (cs.getD i1 0))]) rfl) ?_
        show Go p e below _ T3 (mkF m 35 #[.val (.ref b1), .val (.int ((Int32.ofNat i1) + (1 : Int32))), .val (.ref t1), .val (.int (Int32.ofNat i1)), .val (.int (Int32.ofNat nN)), .val (.int (Int32.ofNat i1)), .val (.int (cs.getD i1 0))] [])
        refine Go.of (fun _ => XS.iinc H4.here hx rfl (hb hby d_jdk_52_21_35) rfl (l' := #[.val (.ref b1), .val (.int ((Int32.ofNat i1) + (1 : Int32))), .val (.ref t1), .val (.int ((Int32.ofNat i1) + (1 : Int32))), .val (.int (Int32.ofNat nN)), .val (.int (Int32.ofNat i1)), .val (.int (cs.getD i1 0))]) rfl) ?_
        show Go p e below _ T3 (mkF m 38 #[.val (.ref b1), .val (.int ((Int32.ofNat i1) + (1 : Int32))), .val (.ref t1), .val (.int ((Int32.ofNat i1) + (1 : Int32))), .val (.int (Int32.ofNat nN)), .val (.int (Int32.ofNat i1)), .val (.int (cs.getD i1 0))] [])
        refine Go.of (fun _ => XS.iinc H4.here hx rfl (hb hby d_jdk_52_21_38) rfl (l' := #[.val (.ref b1), .val (.int ((Int32.ofNat i1) + (1 : Int32))), .val (.ref t1), .val (.int ((Int32.ofNat i1) + (1 : Int32))), .val (.int (Int32.ofNat nN)), .val (.int ((Int32.ofNat i1) + (1 : Int32))), .val (.int (cs.getD i1 0))]) rfl) ?_
        show Go p e below _ T3 (mkF m 41 #[.val (.ref b1), .val (.int ((Int32.ofNat i1) + (1 : Int32))), .val (.ref t1), .val (.int ((Int32.ofNat i1) + (1 : Int32))), .val (.int (Int32.ofNat nN)), .val (.int ((Int32.ofNat i1) + (1 : Int32))), .val (.int (cs.getD i1 0))] [])
        refine Go.of (fun _ => XS.goto H4.here hx rfl (pc0 := 41) (pc' := 3) rfl (hb hby d_jdk_52_21_41) (by decide) (by decide)) ?_
        show Go p e below _ T3 (mkF m 3 #[.val (.ref b1), .val (.int ((Int32.ofNat i1) + (1 : Int32))), .val (.ref t1), .val (.int ((Int32.ofNat i1) + (1 : Int32))), .val (.int (Int32.ofNat nN)), .val (.int ((Int32.ofNat i1) + (1 : Int32))), .val (.int (cs.getD i1 0))] [])
        rw [show (Int32.ofNat i1) + (1 : Int32) = Int32.ofNat (i1 + 1) from own_onadd i1 1]
        exact ih (i1 + 1) T3 h5 (.val (.int (cs.getD i1 0))) _ (by omega) H4 K8 f9 V7 (Or.inr ⟨_, rfl⟩) (by rw [List.length_set]; omega) (own_hs (by omega) (by omega) htk) (fun j hj => if q : j = i1 then q ▸ hbr2 else h255 j (by omega))
  have VP : Arv Z h0 t1 kt .byte (Int32.ofNat nN) (List.replicate nN (.int 0)) (.int 0) := V2.pad (by simpa using pad_rep [] (.int (0 : Int32)) nN)
  show Go p e below _ s₁ (mkF m 0 #[.val (.ref b1), .val (.int (0 : Int32)), .val (.ref t1), .val (.int (0 : Int32)), .val (.int (Int32.ofNat nN)), .unset, .unset] [])
  refine Go.of (fun _ => XS.iconst H0.here hx rfl (hb hby d_jdk_52_21_0)) ?_
  show Go p e below _ s₁ (mkF m 1 #[.val (.ref b1), .val (.int (0 : Int32)), .val (.ref t1), .val (.int (0 : Int32)), .val (.int (Int32.ofNat nN)), .unset, .unset] [(.int (0 : Int32))])
  refine Go.of (fun _ => XS.istore H0.here hx rfl (hb hby d_jdk_52_21_1) rfl (l' := #[.val (.ref b1), .val (.int (0 : Int32)), .val (.ref t1), .val (.int (0 : Int32)), .val (.int (Int32.ofNat nN)), .val (.int (0 : Int32)), .unset]) rfl) ?_
  show Go p e below _ s₁ (mkF m 3 #[.val (.ref b1), .val (.int (0 : Int32)), .val (.ref t1), .val (.int (0 : Int32)), .val (.int (Int32.ofNat nN)), .val (.int (0 : Int32)), .unset] [])
  exact LC nN 0 s₁ h0 .unset (List.replicate nN (.int 0)) (Nat.zero_add _) H0 K1 V1 VP (Or.inl rfl) (by simp) (by simp) (fun j hj => absurd hj (Nat.not_lt_zero j))
set_option maxRecDepth 65536 in
set_option maxHeartbeats 40000000 in
theorem rm_cmp (l : Launch) (Z : State) (a0 : Array Value) (hw : ∀ d ∈ tables_1, d.before a0 Z = true) (hE : EW Z a0 ELx) (b1 : Addr) (kc : ClassId) (nN : Nat) (cs : List Int32) (dc : Value) (h0 : Heap) (O0 : Ext Z.heap h0) (V1 : Arv Z h0 b1 kc .char (Int32.ofNat nN) (cs.map Value.int) dc) (hl : cs.length = nN) (hN4 : nN ≤ 4) (hp : ∀ c ∈ cs, ¬ c < 0 ∧ ¬ (65535 : Int32) < c) (SA : Sta Z Z.heap "java/lang/StringUTF16" "$assertionsDisabled" "Z" (.int 1)) (SHB : Sta Z Z.heap "java/lang/StringUTF16" "HI_BYTE_SHIFT" "I" (.int 0)) (SLB : Sta Z Z.heap "java/lang/StringUTF16" "LO_BYTE_SHIFT" "I" (.int 8)) :
    Ct l Z ELx a0 true (⟨"java/lang/StringUTF16", "compress", "([CII)[B"⟩ : MethodName) jdk_52_method_16_code 6 (some (.array .byte)) [] ({ frames := 3, cells := 2, slots := 12, locals := 60 } : Room) #[(.ref b1), (.int (0 : Int32)), (.int (Int32.ofNat nN))] h0 [] (fun _ => []) (fun v h => ∃ (r : Addr) (kr : ClassId) (cd M2 : Int32) (vs : List Value), v = some (.ref r) ∧ Keep h0 h [] ∧ Z.heap.size ≤ r ∧ Arv Z h r kr .byte M2 vs (.int 0) ∧ StrChars.Road.CodA cs cd M2 vs) := by
  refine own_enter (plainFor_of_name pn_0) hE O0 ?_
  intro p e s m below meth c s₁ hx hby hml hown hnm hret hlk H0
  refine Go.eq (ef_rm_cmp m b1 (0 : Int32) (Int32.ofNat nN)) ?_
  have K1 : Keep h0 h0 [] := Keep.refl _ _
  show Go p e below _ s₁ (mkF m 0 #[.val (.ref b1), .val (.int (0 : Int32)), .val (.int (Int32.ofNat nN)), .unset, .unset, .unset] [])
  refine Go.of (fun _ => XS.iloadN H0.here hx rfl (hb hby d_jdk_52_16_0) rfl) ?_
  show Go p e below _ s₁ (mkF m 1 #[.val (.ref b1), .val (.int (0 : Int32)), .val (.int (Int32.ofNat nN)), .unset, .unset, .unset] [(.int (Int32.ofNat nN))])
  refine own_newP H0 hx (ow hw 19 rfl) rfl (hb hby d_jdk_52_16_1) rfl (own_on0 (by omega)) (cap := 4) (by rw [own_onc (by omega)]; omega) (by decide) (by decide) (by decide) fun T2 h4 b5 kA8 g6 H3 E7 V9 => ?_
  have ne10 : b1 ≠ b5 := by rw [g6]; exact Nat.ne_of_lt V1.lt
  have fr11 : Z.heap.size ≤ b5 := by rw [g6]; exact H0.old.1
  have sz12 : h0.size ≤ b5 := by rw [g6]; exact K1.1
  have K13 : Keep h0 h4 [] := K1.ext E7
  have f14 := V1.ext E7
  have V15 : Arv Z h4 b5 kA8 .byte (Int32.ofNat nN) [] (.int (0 : Int32)) := V9
  show Go p e below _ T2 (mkF m 3 #[.val (.ref b1), .val (.int (0 : Int32)), .val (.int (Int32.ofNat nN)), .unset, .unset, .unset] [(.ref b5)])
  refine Go.of (fun _ => XS.astoreN H3.here hx rfl (hb hby d_jdk_52_16_3) rfl rfl (l' := #[.val (.ref b1), .val (.int (0 : Int32)), .val (.int (Int32.ofNat nN)), .val (.ref b5), .unset, .unset]) rfl) ?_
  show Go p e below _ T2 (mkF m 4 #[.val (.ref b1), .val (.int (0 : Int32)), .val (.int (Int32.ofNat nN)), .val (.ref b5), .unset, .unset] [])
  refine Go.of (fun _ => XS.aloadN H3.here hx rfl (hb hby d_jdk_52_16_4) rfl rfl) ?_
  show Go p e below _ T2 (mkF m 5 #[.val (.ref b1), .val (.int (0 : Int32)), .val (.int (Int32.ofNat nN)), .val (.ref b5), .unset, .unset] [(.ref b1)])
  refine Go.of (fun _ => XS.iloadN H3.here hx rfl (hb hby d_jdk_52_16_5) rfl) ?_
  show Go p e below _ T2 (mkF m 6 #[.val (.ref b1), .val (.int (0 : Int32)), .val (.int (Int32.ofNat nN)), .val (.ref b5), .unset, .unset] [(.int (0 : Int32)), (.ref b1)])
  refine Go.of (fun _ => XS.aloadN H3.here hx rfl (hb hby d_jdk_52_16_6) rfl rfl) ?_
  show Go p e below _ T2 (mkF m 7 #[.val (.ref b1), .val (.int (0 : Int32)), .val (.int (Int32.ofNat nN)), .val (.ref b5), .unset, .unset] [(.ref b5), (.int (0 : Int32)), (.ref b1)])
  refine Go.of (fun _ => XS.iconst H3.here hx rfl (hb hby d_jdk_52_16_7)) ?_
  show Go p e below _ T2 (mkF m 8 #[.val (.ref b1), .val (.int (0 : Int32)), .val (.int (Int32.ofNat nN)), .val (.ref b5), .unset, .unset] [(.int (0 : Int32)), (.ref b5), (.int (0 : Int32)), (.ref b1)])
  refine Go.of (fun _ => XS.iloadN H3.here hx rfl (hb hby d_jdk_52_16_8) rfl) ?_
  show Go p e below _ T2 (mkF m 9 #[.val (.ref b1), .val (.int (0 : Int32)), .val (.int (Int32.ofNat nN)), .val (.ref b5), .unset, .unset] [(.int (Int32.ofNat nN)), (.int (0 : Int32)), (.ref b5), (.int (0 : Int32)), (.ref b1)])
  refine own_staticW H3 hx (y := (⟨"java/lang/StringUTF16", "compress", "([CI[BII)I"⟩ : MethodName)) hown (ow hw 40 rfl) (ow hw 41 rfl) (ow hw 38 rfl) (ow hw 42 rfl) (by decide) (W := 0) (rm_cp2 l Z a0 hw hE b1 kc nN cs dc b5 kA8 h4 H3.old f14 hl hN4 hp V15 ne10 fr11) (allS (List.mem_of_getElem? (i := 0) rfl) all0) (by decide) (by decide) rfl (by rw [hml]; rfl) (argsL := [(.ref b1), (.int (0 : Int32)), (.ref b5), (.int (0 : Int32)), (.int (Int32.ofNat nN))]) (rest := []) rfl (lenOf pd_3 rfl) rfl (by show 2 * 0 + _ ≤ _; exact Nat.le_of_eq rfl) (hb hby d_jdk_52_16_9) (by decide) (by decide) fun T16 h18 v20 H17 hs21 q19 => ?_
  obtain ⟨jN, vs, rfl, KC, VC, hj⟩ := q19
  have K22 : Keep h0 h18 [] := K13.trans KC (allS (Or.inr sz12) all0)
  have f23 := f14.keep KC (ninS ne10 nin0)
  show Go p e below _ T16 (mkF m 12 #[.val (.ref b1), .val (.int (0 : Int32)), .val (.int (Int32.ofNat nN)), .val (.ref b5), .unset, .unset] [(.int (Int32.ofNat jN))])
  rcases hj with ⟨hj, hvs, hlat⟩ | ⟨hj, hbig⟩
  · skip
    refine Go.of (fun _ => XS.istore H17.here hx rfl (hb hby d_jdk_52_16_12) rfl (l' := #[.val (.ref b1), .val (.int (0 : Int32)), .val (.int (Int32.ofNat nN)), .val (.ref b5), .val (.int (Int32.ofNat jN)), .unset]) rfl) ?_
    show Go p e below _ T16 (mkF m 14 #[.val (.ref b1), .val (.int (0 : Int32)), .val (.int (Int32.ofNat nN)), .val (.ref b5), .val (.int (Int32.ofNat jN)), .unset] [])
    refine Go.of (fun _ => XS.iload H17.here hx rfl (hb hby d_jdk_52_16_14) rfl) ?_
    show Go p e below _ T16 (mkF m 16 #[.val (.ref b1), .val (.int (0 : Int32)), .val (.int (Int32.ofNat nN)), .val (.ref b5), .val (.int (Int32.ofNat jN)), .unset] [(.int (Int32.ofNat jN))])
    refine Go.of (fun _ => XS.iloadN H17.here hx rfl (hb hby d_jdk_52_16_16) rfl) ?_
    show Go p e below _ T16 (mkF m 17 #[.val (.ref b1), .val (.int (0 : Int32)), .val (.int (Int32.ofNat nN)), .val (.ref b5), .val (.int (Int32.ofNat jN)), .unset] [(.int (Int32.ofNat nN)), (.int (Int32.ofNat jN))])
    refine Go.of (fun _ => XS.icmpYes H17.here hx rfl (pc0 := 17) (pc' := 57) rfl (hb hby d_jdk_52_16_17) rfl (teq (by rw [hj])).1 (by decide) (by decide)) ?_
    show Go p e below _ T16 (mkF m 57 #[.val (.ref b1), .val (.int (0 : Int32)), .val (.int (Int32.ofNat nN)), .val (.ref b5), .val (.int (Int32.ofNat jN)), .unset] [])
    refine Go.of (fun _ => XS.aloadN H17.here hx rfl (hb hby d_jdk_52_16_57) rfl rfl) ?_
    show Go p e below _ T16 (mkF m 58 #[.val (.ref b1), .val (.int (0 : Int32)), .val (.int (Int32.ofNat nN)), .val (.ref b5), .val (.int (Int32.ofNat jN)), .unset] [(.ref b5)])
    exact own_retA H17 hx hlk hret rfl rfl (hb hby d_jdk_52_16_58) all0 ⟨b5, _, 0, _, _, rfl, K22, fr11, VC, Or.inl ⟨rfl, by rw [hl], hvs, hlat⟩⟩ (by decide) (by decide)
  · skip
    refine Go.of (fun _ => XS.istore H17.here hx rfl (hb hby d_jdk_52_16_12) rfl (l' := #[.val (.ref b1), .val (.int (0 : Int32)), .val (.int (Int32.ofNat nN)), .val (.ref b5), .val (.int (Int32.ofNat jN)), .unset]) rfl) ?_
    show Go p e below _ T16 (mkF m 14 #[.val (.ref b1), .val (.int (0 : Int32)), .val (.int (Int32.ofNat nN)), .val (.ref b5), .val (.int (Int32.ofNat jN)), .unset] [])
    refine Go.of (fun _ => XS.iload H17.here hx rfl (hb hby d_jdk_52_16_14) rfl) ?_
    show Go p e below _ T16 (mkF m 16 #[.val (.ref b1), .val (.int (0 : Int32)), .val (.int (Int32.ofNat nN)), .val (.ref b5), .val (.int (Int32.ofNat jN)), .unset] [(.int (Int32.ofNat jN))])
    refine Go.of (fun _ => XS.iloadN H17.here hx rfl (hb hby d_jdk_52_16_16) rfl) ?_
    show Go p e below _ T16 (mkF m 17 #[.val (.ref b1), .val (.int (0 : Int32)), .val (.int (Int32.ofNat nN)), .val (.ref b5), .val (.int (Int32.ofNat jN)), .unset] [(.int (Int32.ofNat nN)), (.int (Int32.ofNat jN))])
    refine Go.of (fun _ => XS.icmpNo H17.here hx rfl (hb hby d_jdk_52_16_17) rfl (feq (fun q => absurd ((own_oneq (by omega) (by omega)).mp q) (Nat.ne_of_lt hj))).1) ?_
    show Go p e below _ T16 (mkF m 20 #[.val (.ref b1), .val (.int (0 : Int32)), .val (.int (Int32.ofNat nN)), .val (.ref b5), .val (.int (Int32.ofNat jN)), .unset] [])
    refine Go.of (fun _ => XS.aloadN H17.here hx rfl (hb hby d_jdk_52_16_20) rfl rfl) ?_
    show Go p e below _ T16 (mkF m 21 #[.val (.ref b1), .val (.int (0 : Int32)), .val (.int (Int32.ofNat nN)), .val (.ref b5), .val (.int (Int32.ofNat jN)), .unset] [(.ref b1)])
    refine Go.of (fun _ => XS.iloadN H17.here hx rfl (hb hby d_jdk_52_16_21) rfl) ?_
    show Go p e below _ T16 (mkF m 22 #[.val (.ref b1), .val (.int (0 : Int32)), .val (.int (Int32.ofNat nN)), .val (.ref b5), .val (.int (Int32.ofNat jN)), .unset] [(.int (0 : Int32)), (.ref b1)])
    refine Go.of (fun _ => XS.iloadN H17.here hx rfl (hb hby d_jdk_52_16_22) rfl) ?_
    show Go p e below _ T16 (mkF m 23 #[.val (.ref b1), .val (.int (0 : Int32)), .val (.int (Int32.ofNat nN)), .val (.ref b5), .val (.int (Int32.ofNat jN)), .unset] [(.int (Int32.ofNat nN)), (.int (0 : Int32)), (.ref b1)])
    refine own_staticW H17 hx (y := (⟨"java/lang/StringUTF16", "toBytes", "([CII)[B"⟩ : MethodName)) hown (ow hw 95 rfl) (ow hw 96 rfl) (ow hw 38 rfl) (ow hw 97 rfl) (by decide) (W := 0) (rm_tob l Z a0 hw hE b1 kc nN cs dc h18 H17.old f23 hl hN4 hp SA SHB SLB) (fun _ hq => nomatch hq) (by decide) (by decide) rfl (by rw [hml]; rfl) (argsL := [(.ref b1), (.int (0 : Int32)), (.int (Int32.ofNat nN))]) (rest := []) rfl (lenOf pd_4 rfl) rfl (by show 2 * 0 + _ ≤ _; exact Nat.le_of_eq rfl) (hb hby d_jdk_52_16_23) (by decide) (by decide) fun T25 h27 v29 H26 hs30 q28 => ?_
    obtain ⟨r1, kr1, rfl, KT, zr1, gr1, VT⟩ := q28
    have K31 : Keep h0 h27 [] := K22.trans KT all0
    show Go p e below _ T25 (mkF m 26 #[.val (.ref b1), .val (.int (0 : Int32)), .val (.int (Int32.ofNat nN)), .val (.ref b5), .val (.int (Int32.ofNat jN)), .unset] [(.ref r1)])
    refine Go.of (fun _ => XS.astore H26.here hx rfl (hb hby d_jdk_52_16_26) rfl rfl (l' := #[.val (.ref b1), .val (.int (0 : Int32)), .val (.int (Int32.ofNat nN)), .val (.ref b5), .val (.int (Int32.ofNat jN)), .val (.ref r1)]) rfl) ?_
    show Go p e below _ T25 (mkF m 28 #[.val (.ref b1), .val (.int (0 : Int32)), .val (.int (Int32.ofNat nN)), .val (.ref b5), .val (.int (Int32.ofNat jN)), .val (.ref r1)] [])
    refine Go.of (fun _ => XS.aload H26.here hx rfl (hb hby d_jdk_52_16_28) rfl rfl) ?_
    show Go p e below _ T25 (mkF m 30 #[.val (.ref b1), .val (.int (0 : Int32)), .val (.int (Int32.ofNat nN)), .val (.ref b5), .val (.int (Int32.ofNat jN)), .val (.ref r1)] [(.ref r1)])
    refine Go.of (fun _ => XS.iload H26.here hx rfl (hb hby d_jdk_52_16_30) rfl) ?_
    show Go p e below _ T25 (mkF m 32 #[.val (.ref b1), .val (.int (0 : Int32)), .val (.int (Int32.ofNat nN)), .val (.ref b5), .val (.int (Int32.ofNat jN)), .val (.ref r1)] [(.int (Int32.ofNat jN)), (.ref r1)])
    refine own_staticW H26 hx (y := (⟨"java/lang/StringUTF16", "getChar", "([BI)C"⟩ : MethodName)) hown (ow hw 111 rfl) (ow hw 112 rfl) (ow hw 38 rfl) (ow hw 113 rfl) (by decide) (W := 0) (rm_get l Z a0 hw hE r1 kr1 nN _ jN (cs.getD jN 0) h27 H26.old VT hN4 hj (StrChars.Road.wide_lo _ _ _ (by omega)) (StrChars.Road.wide_hi _ _ _ (by omega)) (hp _ (own_getm (by omega))) SA SHB SLB) (fun _ hq => nomatch hq) (by decide) (by decide) rfl (by rw [hml]; rfl) (argsL := [(.ref r1), (.int (Int32.ofNat jN))]) (rest := []) rfl (lenOf pd_5 rfl) rfl (by show 2 * 0 + _ ≤ _; exact Nat.le_of_eq rfl) (hb hby d_jdk_52_16_32) (by decide) (by decide) fun T32 h34 v36 H33 hs37 q35 => ?_
    obtain ⟨ve39, e38⟩ := q35
    subst e38
    subst ve39
    show Go p e below _ T32 (mkF m 35 #[.val (.ref b1), .val (.int (0 : Int32)), .val (.int (Int32.ofNat nN)), .val (.ref b5), .val (.int (Int32.ofNat jN)), .val (.ref r1)] [(.int (cs.getD jN 0))])
    refine Go.of (fun _ => XS.sipush H33.here hx rfl (hb hby d_jdk_52_16_35)) ?_
    show Go p e below _ T32 (mkF m 38 #[.val (.ref b1), .val (.int (0 : Int32)), .val (.int (Int32.ofNat nN)), .val (.ref b5), .val (.int (Int32.ofNat jN)), .val (.ref r1)] [(.int (255 : Int32)), (.int (cs.getD jN 0))])
    refine Go.of (fun _ => XS.icmpYes H33.here hx rfl (pc0 := 38) (pc' := 54) rfl (hb hby d_jdk_52_16_38) rfl (tlt hbig).2.2.1 (by decide) (by decide)) ?_
    show Go p e below _ T32 (mkF m 54 #[.val (.ref b1), .val (.int (0 : Int32)), .val (.int (Int32.ofNat nN)), .val (.ref b5), .val (.int (Int32.ofNat jN)), .val (.ref r1)] [])
    refine Go.of (fun _ => XS.aload H33.here hx rfl (hb hby d_jdk_52_16_54) rfl rfl) ?_
    show Go p e below _ T32 (mkF m 56 #[.val (.ref b1), .val (.int (0 : Int32)), .val (.int (Int32.ofNat nN)), .val (.ref b5), .val (.int (Int32.ofNat jN)), .val (.ref r1)] [(.ref r1)])
    exact own_retA H33 hx hlk hret rfl rfl (hb hby d_jdk_52_16_56) all0 ⟨r1, kr1, 1, _, _, rfl, K31, gr1, VT, Or.inr ⟨rfl, by rw [hl], rfl, _, own_getm (by omega), hbig⟩⟩ (by decide) (by decide)
set_option maxRecDepth 65536 in
set_option maxHeartbeats 40000000 in
theorem rm_cfl (l : Launch) (Z : State) (a0 : Array Value) (hw : ∀ d ∈ tables_1, d.before a0 Z = true) (hE : EW Z a0 ELx) (b1 : Addr) (kb : ClassId) (nN : Nat) (vs : List Value) (cs : List Int32) (cd : Int32) (M2 : Int32) (h0 : Heap) (O0 : Ext Z.heap h0) (V1 : Arv Z h0 b1 kb .byte M2 vs (.int 0)) (hcd : StrChars.Road.CodA cs cd M2 vs) (hl : cs.length = nN) (h0n : 0 < nN) (hN4 : nN ≤ 4) :
    Ct l Z ELx a0 true (⟨"java/lang/StringUTF16", "coderFromArrayLen", "([BI)B"⟩ : MethodName) jdk_52_method_15_code 2 (some .byte) [] ({ frames := 0, cells := 0, slots := 0, locals := 0 } : Room) #[(.ref b1), (.int (Int32.ofNat nN))] h0 [] (fun _ => []) (fun v h => v = some (.int cd) ∧ h0 = h) := by
  refine own_enter (plainFor_of_name pn_0) hE O0 ?_
  intro p e s m below meth c s₁ hx hby hml hown hnm hret hlk H0
  refine Go.eq (ef_rm_cfl m b1 (Int32.ofNat nN)) ?_
  show Go p e below _ s₁ (mkF m 0 #[.val (.ref b1), .val (.int (Int32.ofNat nN))] [])
  refine Go.of (fun _ => XS.iloadN H0.here hx rfl (hb hby d_jdk_52_15_0) rfl) ?_
  show Go p e below _ s₁ (mkF m 1 #[.val (.ref b1), .val (.int (Int32.ofNat nN))] [(.int (Int32.ofNat nN))])
  refine Go.of (fun _ => XS.aloadN H0.here hx rfl (hb hby d_jdk_52_15_1) rfl rfl) ?_
  show Go p e below _ s₁ (mkF m 2 #[.val (.ref b1), .val (.int (Int32.ofNat nN))] [(.ref b1), (.int (Int32.ofNat nN))])
  refine own_len H0 hx V1 rfl rfl (hb hby d_jdk_52_15_2) ?_
  show Go p e below _ s₁ (mkF m 3 #[.val (.ref b1), .val (.int (Int32.ofNat nN))] [(.int M2), (.int (Int32.ofNat nN))])
  refine Go.of (fun _ => XS.isub H0.here hx rfl (hb hby d_jdk_52_15_3) rfl) ?_
  show Go p e below _ s₁ (mkF m 4 #[.val (.ref b1), .val (.int (Int32.ofNat nN))] [(.int ((Int32.ofNat nN) - M2))])
  refine Go.of (fun _ => XS.bipush H0.here hx rfl (hb hby d_jdk_52_15_4)) ?_
  show Go p e below _ s₁ (mkF m 6 #[.val (.ref b1), .val (.int (Int32.ofNat nN))] [(.int (31 : Int32)), (.int ((Int32.ofNat nN) - M2))])
  refine Go.of (fun _ => XS.iushr H0.here hx rfl (hb hby d_jdk_52_15_6) rfl) ?_
  show Go p e below _ s₁ (mkF m 7 #[.val (.ref b1), .val (.int (Int32.ofNat nN))] [(.int ((((Int32.ofNat nN) - M2).toUInt32 >>> ((31 : Int32) &&& 31).toUInt32).toInt32))])
  refine Go.of (fun _ => XS.i2b H0.here hx rfl (hb hby d_jdk_52_15_7) rfl) ?_
  show Go p e below _ s₁ (mkF m 8 #[.val (.ref b1), .val (.int (Int32.ofNat nN))] [(.int (((((Int32.ofNat nN) - M2).toUInt32 >>> ((31 : Int32) &&& 31).toUInt32).toInt32).toInt8.toInt32))])
  exact own_retN H0 hx hlk (t := .byte) hret (by simp) (hb hby d_jdk_52_15_8) all0 ⟨own_cfl hcd hl h0n hN4, rfl⟩ (by decide) (by decide)
set_option maxRecDepth 65536 in
set_option maxHeartbeats 40000000 in
theorem rm_s2 (l : Launch) (Z : State) (a0 : Array Value) (hw : ∀ d ∈ tables_1, d.before a0 Z = true) (hE : EW Z a0 ELx) (a1 : Addr) (b1 : Addr) (kc : ClassId) (nN : Nat) (cs : List Int32) (dc : Value) (zc : Int32) (h0 : Heap) (O0 : Ext Z.heap h0) (E1 : Exa Z h0 a1 "java/lang/String") (F1 : Fld Z h0 a1 "java/lang/String" "value" "[B" .null) (F2 : Fld Z h0 a1 "java/lang/String" "coder" "B" (.int 0)) (g1 : Z.heap.size ≤ a1) (hab : b1 ≠ a1) (V1 : Arv Z h0 b1 kc .char (Int32.ofNat nN) (cs.map Value.int) dc) (hl : cs.length = nN) (hN4 : nN ≤ 4) (hp : ∀ c ∈ cs, ¬ c < 0 ∧ ¬ (65535 : Int32) < c) (SC : Sta Z Z.heap "java/lang/String" "COMPACT_STRINGS" "Z" (.int zc)) (hzc : ¬ zc = 0) (SA : Sta Z Z.heap "java/lang/StringUTF16" "$assertionsDisabled" "Z" (.int 1)) (SHB : Sta Z Z.heap "java/lang/StringUTF16" "HI_BYTE_SHIFT" "I" (.int 0)) (SLB : Sta Z Z.heap "java/lang/StringUTF16" "LO_BYTE_SHIFT" "I" (.int 8)) :
    Ct l Z ELx a0 true (⟨"java/lang/String", "<init>", "([CIILjava/lang/Void;)V"⟩ : MethodName) jdk_42_method_149_code 6 none [] ({ frames := 4, cells := 6, slots := 20, locals := 90 } : Room) #[(.ref a1), (.ref b1), (.int (0 : Int32)), (.int (Int32.ofNat nN)), .null] h0 [a1] (fun _ => []) (fun v h => v = none ∧ Keep h0 h [a1] ∧ own_str Z h a1 cs) := by
  refine own_enter (plainFor_of_name pn_1) hE O0 ?_
  intro p e s m below meth c s₁ hx hby hml hown hnm hret hlk H0
  refine Go.eq (ef_rm_s2 m a1 b1 (0 : Int32) (Int32.ofNat nN)) ?_
  have K1 : Keep h0 h0 [a1] := Keep.refl _ _
  have hst := own_hst hw
  show Go p e below _ s₁ (mkF m 0 #[.val (.ref a1), .val (.ref b1), .val (.int (0 : Int32)), .val (.int (Int32.ofNat nN)), .val .null, .unset] [])
  refine Go.of (fun _ => XS.aloadN H0.here hx rfl (hb hby d_jdk_42_149_0) rfl rfl) ?_
  show Go p e below _ s₁ (mkF m 1 #[.val (.ref a1), .val (.ref b1), .val (.int (0 : Int32)), .val (.int (Int32.ofNat nN)), .val .null, .unset] [(.ref a1)])
  refine own_initO H0 hx hown (ow hw 15 rfl) (ow hw 16 rfl) (ow hw 17 rfl) rfl (by rw [hml]; rfl) rfl (hb hby d_jdk_42_149_1) (by decide) (W := 0) (by show 2 * 0 + _ ≤ _; exact Nat.le_of_eq rfl) (by decide) fun T2 H3 => ?_
  show Go p e below _ T2 (mkF m 4 #[.val (.ref a1), .val (.ref b1), .val (.int (0 : Int32)), .val (.int (Int32.ofNat nN)), .val .null, .unset] [])
  refine Go.of (fun _ => XS.iloadN H3.here hx rfl (hb hby d_jdk_42_149_4) rfl) ?_
  show Go p e below _ T2 (mkF m 5 #[.val (.ref a1), .val (.ref b1), .val (.int (0 : Int32)), .val (.int (Int32.ofNat nN)), .val .null, .unset] [(.int (Int32.ofNat nN))])
  by_cases hbr4 : (Int32.ofNat nN) = (0 : Int32)
  · skip
    refine Go.of (fun _ => XS.ifNo H3.here hx rfl (hb hby d_jdk_42_149_5) rfl ((if0 _ _).trans (teq hbr4).2)) ?_
    show Go p e below _ T2 (mkF m 8 #[.val (.ref a1), .val (.ref b1), .val (.int (0 : Int32)), .val (.int (Int32.ofNat nN)), .val .null, .unset] [])
    refine Go.of (fun _ => XS.aloadN H3.here hx rfl (hb hby d_jdk_42_149_8) rfl rfl) ?_
    show Go p e below _ T2 (mkF m 9 #[.val (.ref a1), .val (.ref b1), .val (.int (0 : Int32)), .val (.int (Int32.ofNat nN)), .val .null, .unset] [(.ref a1)])
    refine own_ldcS H3 hx hown (ow hw 18 rfl) hst (by decide) (vs := []) (z := (0 : Int32)) ⟨by decide, by decide⟩ (by decide) (by decide) rfl (hb hby d_jdk_42_149_9) (nn := 0) (by decide) (by decide) (by decide) (by decide) fun T5 h7 a9 b10 kb11 H6 E8 f12 f13 f14 V15 ne16 => ?_
    have K17 : Keep h0 h7 [a1] := K1.ext E8
    have f18 := E1.ext E8
    have f19 := F1.ext E8
    have f20 := F2.ext E8
    have f21 := V1.ext E8
    show Go p e below _ T5 (mkF m 11 #[.val (.ref a1), .val (.ref b1), .val (.int (0 : Int32)), .val (.int (Int32.ofNat nN)), .val .null, .unset] [(.ref a9), (.ref a1)])
    refine own_getF H6 hx hown (host := "") (Or.inl (ow hw 24 rfl)) Via.refl f14 rfl rfl (hb hby d_jdk_42_149_11) fun T22 H23 => ?_
    show Go p e below _ T22 (mkF m 14 #[.val (.ref a1), .val (.ref b1), .val (.int (0 : Int32)), .val (.int (Int32.ofNat nN)), .val .null, .unset] [(.ref b10), (.ref a1)])
    refine own_putF H23 hx hown (host := "") (Or.inl (ow hw 24 rfl)) Via.refl f19 f18 (Or.inr ⟨(ow hw 20 rfl), rfl, hnm⟩) (ow hw 6 rfl) (ty := (.array .byte)) (by decide) rfl rfl g1 (own_mem (List.mem_of_getElem? (i := 0) rfl)) rfl rfl (hb hby d_jdk_42_149_14) fun T24 h26 H25 W27 => ?_
    have K28 : Keep h0 h26 [a1] := K17.wr W27 (Or.inl (List.mem_of_getElem? (i := 0) rfl))
    have f29 := f18.wr W27
    have f30 := f19.same W27
    have f31 := f20.other W27 (Or.inr (slot_ne (Or.inr (ow hw 21 rfl)) (Or.inr (ow hw 20 rfl)) (by decide) (t := .byte) (t' := (.array .byte)) (by decide) (by decide)))
    have f32 := f21.other W27 hab
    have f33 := f12.wr W27
    have f34 := f13.other W27 (Or.inl (Ne.symm (ne16 a1 (List.mem_of_getElem? (i := 0) rfl)).1))
    have f35 := f14.other W27 (Or.inl (Ne.symm (ne16 a1 (List.mem_of_getElem? (i := 0) rfl)).1))
    have f36 := V15.other W27 (Ne.symm (ne16 a1 (List.mem_of_getElem? (i := 0) rfl)).2)
    show Go p e below _ T24 (mkF m 17 #[.val (.ref a1), .val (.ref b1), .val (.int (0 : Int32)), .val (.int (Int32.ofNat nN)), .val .null, .unset] [])
    refine Go.of (fun _ => XS.aloadN H25.here hx rfl (hb hby d_jdk_42_149_17) rfl rfl) ?_
    show Go p e below _ T24 (mkF m 18 #[.val (.ref a1), .val (.ref b1), .val (.int (0 : Int32)), .val (.int (Int32.ofNat nN)), .val .null, .unset] [(.ref a1)])
    refine own_ldcS H25 hx hown (ow hw 18 rfl) hst (by decide) (vs := []) (z := (0 : Int32)) ⟨by decide, by decide⟩ (by decide) (by decide) rfl (hb hby d_jdk_42_149_18) (nn := 0) (by decide) (by decide) (by decide) (by decide) fun T37 h39 a41 b42 kb43 H38 E40 f44 f45 f46 V47 ne48 => ?_
    have K49 : Keep h0 h39 [a1] := K28.ext E40
    have f50 := f29.ext E40
    have f51 := f30.ext E40
    have f52 := f31.ext E40
    have f53 := f32.ext E40
    have f54 := f33.ext E40
    have f55 := f34.ext E40
    have f56 := f35.ext E40
    have f57 := f36.ext E40
    show Go p e below _ T37 (mkF m 20 #[.val (.ref a1), .val (.ref b1), .val (.int (0 : Int32)), .val (.int (Int32.ofNat nN)), .val .null, .unset] [(.ref a41), (.ref a1)])
    refine own_getF H38 hx hown (host := "") (Or.inl (ow hw 25 rfl)) Via.refl f45 rfl rfl (hb hby d_jdk_42_149_20) fun T58 H59 => ?_
    show Go p e below _ T58 (mkF m 23 #[.val (.ref a1), .val (.ref b1), .val (.int (0 : Int32)), .val (.int (Int32.ofNat nN)), .val .null, .unset] [(.int (0 : Int32)), (.ref a1)])
    refine own_putFN H59 hx hown (ow hw 25 rfl) Via.refl f52 f50 (Or.inr ⟨(ow hw 21 rfl), rfl, hnm⟩) (ow hw 6 rfl) (ty := .byte) (v' := .int (nar .byte (0 : Int32))) (by decide) rfl (fits_nar_byte _) g1 (own_mem (List.mem_of_getElem? (i := 0) rfl)) rfl rfl (hb hby d_jdk_42_149_23) fun T60 h62 H61 W63 => ?_
    have K64 : Keep h0 h62 [a1] := K49.wr W63 (Or.inl (List.mem_of_getElem? (i := 0) rfl))
    have f65 := f50.wr W63
    have f66 := f51.other W63 (Or.inr (slot_ne (Or.inr (ow hw 20 rfl)) (Or.inr (ow hw 21 rfl)) (by decide) (t := (.array .byte)) (t' := .byte) (by decide) (by decide)))
    have f67 := f52.same W63
    have f68 := f53.other W63 hab
    have f69 := f54.wr W63
    have f70 := f55.other W63 (Or.inl (Ne.symm (ne16 a1 (List.mem_of_getElem? (i := 0) rfl)).1))
    have f71 := f56.other W63 (Or.inl (Ne.symm (ne16 a1 (List.mem_of_getElem? (i := 0) rfl)).1))
    have f72 := f57.other W63 (Ne.symm (ne16 a1 (List.mem_of_getElem? (i := 0) rfl)).2)
    have f73 := f44.wr W63
    have f74 := f45.other W63 (Or.inl (Ne.symm (ne48 a1 (List.mem_of_getElem? (i := 0) rfl)).1))
    have f75 := f46.other W63 (Or.inl (Ne.symm (ne48 a1 (List.mem_of_getElem? (i := 0) rfl)).1))
    have f76 := V47.other W63 (Ne.symm (ne48 a1 (List.mem_of_getElem? (i := 0) rfl)).2)
    show Go p e below _ T60 (mkF m 26 #[.val (.ref a1), .val (.ref b1), .val (.int (0 : Int32)), .val (.int (Int32.ofNat nN)), .val .null, .unset] [])
    exact own_ret H61 hx hlk hret (hb hby d_jdk_42_149_26) all0 ⟨rfl, K64, by rw [show cs = [] from List.eq_nil_of_length_eq_zero (hl.trans ((own_onz (by omega)).mp hbr4))]; exact own_str.empty f65 f67 f66 f72⟩ (by decide) (by decide)
  · skip
    refine Go.of (fun _ => XS.ifYes H3.here hx rfl (pc0 := 5) (pc' := 27) rfl (hb hby d_jdk_42_149_5) rfl ((if0 _ _).trans (feq hbr4).2) (by decide) (by decide)) ?_
    show Go p e below _ T2 (mkF m 27 #[.val (.ref a1), .val (.ref b1), .val (.int (0 : Int32)), .val (.int (Int32.ofNat nN)), .val .null, .unset] [])
    refine own_getS H3 hx hown (host := "") (Or.inl (ow hw 35 rfl)) Via.refl SC rfl (hb hby d_jdk_42_149_27) fun T77 H78 => ?_
    show Go p e below _ T77 (mkF m 30 #[.val (.ref a1), .val (.ref b1), .val (.int (0 : Int32)), .val (.int (Int32.ofNat nN)), .val .null, .unset] [(.int zc)])
    refine Go.of (fun _ => XS.ifNo H78.here hx rfl (hb hby d_jdk_42_149_30) rfl ((if0 _ _).trans (feq hzc).1)) ?_
    show Go p e below _ T77 (mkF m 33 #[.val (.ref a1), .val (.ref b1), .val (.int (0 : Int32)), .val (.int (Int32.ofNat nN)), .val .null, .unset] [])
    refine Go.of (fun _ => XS.aloadN H78.here hx rfl (hb hby d_jdk_42_149_33) rfl rfl) ?_
    show Go p e below _ T77 (mkF m 34 #[.val (.ref a1), .val (.ref b1), .val (.int (0 : Int32)), .val (.int (Int32.ofNat nN)), .val .null, .unset] [(.ref b1)])
    refine Go.of (fun _ => XS.iloadN H78.here hx rfl (hb hby d_jdk_42_149_34) rfl) ?_
    show Go p e below _ T77 (mkF m 35 #[.val (.ref a1), .val (.ref b1), .val (.int (0 : Int32)), .val (.int (Int32.ofNat nN)), .val .null, .unset] [(.int (0 : Int32)), (.ref b1)])
    refine Go.of (fun _ => XS.iloadN H78.here hx rfl (hb hby d_jdk_42_149_35) rfl) ?_
    show Go p e below _ T77 (mkF m 36 #[.val (.ref a1), .val (.ref b1), .val (.int (0 : Int32)), .val (.int (Int32.ofNat nN)), .val .null, .unset] [(.int (Int32.ofNat nN)), (.int (0 : Int32)), (.ref b1)])
    refine own_staticW H78 hx (y := (⟨"java/lang/StringUTF16", "compress", "([CII)[B"⟩ : MethodName)) hown (ow hw 36 rfl) (ow hw 37 rfl) (ow hw 38 rfl) (ow hw 39 rfl) (by decide) (W := 0) (rm_cmp l Z a0 hw hE b1 kc nN cs dc h0 H78.old V1 hl hN4 hp SA SHB SLB) (fun _ hq => nomatch hq) (by decide) (by decide) rfl (by rw [hml]; rfl) (argsL := [(.ref b1), (.int (0 : Int32)), (.int (Int32.ofNat nN))]) (rest := []) rfl (lenOf pd_4 rfl) rfl (by show 2 * 0 + _ ≤ _; exact Nat.le_of_eq rfl) (hb hby d_jdk_42_149_36) (by decide) (by decide) fun T79 h81 v83 H80 hs84 q82 => ?_
    obtain ⟨r1, kr1, cd, M2, vs, rfl, KC, gr1, VC, hcd⟩ := q82
    have ner : r1 ≠ a1 := fun q => by subst q; exact own_nea (ow hw 6 rfl) (E1.keep KC) VC
    have K85 : Keep h0 h81 [a1] := K1.trans KC all0
    have f86 := E1.keep KC
    have f87 := F1.keep KC nin0
    have f88 := F2.keep KC nin0
    have f89 := V1.keep KC nin0
    show Go p e below _ T79 (mkF m 39 #[.val (.ref a1), .val (.ref b1), .val (.int (0 : Int32)), .val (.int (Int32.ofNat nN)), .val .null, .unset] [(.ref r1)])
    refine Go.of (fun _ => XS.astore H80.here hx rfl (hb hby d_jdk_42_149_39) rfl rfl (l' := #[.val (.ref a1), .val (.ref b1), .val (.int (0 : Int32)), .val (.int (Int32.ofNat nN)), .val .null, .val (.ref r1)]) rfl) ?_
    show Go p e below _ T79 (mkF m 41 #[.val (.ref a1), .val (.ref b1), .val (.int (0 : Int32)), .val (.int (Int32.ofNat nN)), .val .null, .val (.ref r1)] [])
    refine Go.of (fun _ => XS.aloadN H80.here hx rfl (hb hby d_jdk_42_149_41) rfl rfl) ?_
    show Go p e below _ T79 (mkF m 42 #[.val (.ref a1), .val (.ref b1), .val (.int (0 : Int32)), .val (.int (Int32.ofNat nN)), .val .null, .val (.ref r1)] [(.ref a1)])
    refine Go.of (fun _ => XS.aload H80.here hx rfl (hb hby d_jdk_42_149_42) rfl rfl) ?_
    show Go p e below _ T79 (mkF m 44 #[.val (.ref a1), .val (.ref b1), .val (.int (0 : Int32)), .val (.int (Int32.ofNat nN)), .val .null, .val (.ref r1)] [(.ref r1), (.ref a1)])
    refine Go.of (fun _ => XS.iloadN H80.here hx rfl (hb hby d_jdk_42_149_44) rfl) ?_
    show Go p e below _ T79 (mkF m 45 #[.val (.ref a1), .val (.ref b1), .val (.int (0 : Int32)), .val (.int (Int32.ofNat nN)), .val .null, .val (.ref r1)] [(.int (Int32.ofNat nN)), (.ref r1), (.ref a1)])
    refine own_staticW H80 hx (y := (⟨"java/lang/StringUTF16", "coderFromArrayLen", "([BI)B"⟩ : MethodName)) hown (ow hw 43 rfl) (ow hw 44 rfl) (ow hw 38 rfl) (ow hw 45 rfl) (by decide) (W := 1) (rm_cfl l Z a0 hw hE r1 kr1 nN vs cs cd M2 h81 H80.old VC hcd hl (Nat.pos_of_ne_zero fun q => hbr4 ((own_onz (by omega)).mpr q)) hN4) (fun _ hq => nomatch hq) (by decide) (by decide) rfl (by rw [hml]; rfl) (argsL := [(.ref r1), (.int (Int32.ofNat nN))]) (rest := [(.ref a1)]) rfl (lenOf pd_6 rfl) rfl (by show 2 * 0 + _ ≤ _; exact Nat.le_of_eq rfl) (hb hby d_jdk_42_149_45) (by decide) (by decide) fun T90 h92 v94 H91 hs95 q93 => ?_
    obtain ⟨ve97, e96⟩ := q93
    subst e96
    subst ve97
    show Go p e below _ T90 (mkF m 48 #[.val (.ref a1), .val (.ref b1), .val (.int (0 : Int32)), .val (.int (Int32.ofNat nN)), .val .null, .val (.ref r1)] [(.int cd), (.ref a1)])
    refine own_putFN H91 hx hown (ow hw 25 rfl) Via.refl f88 f86 (Or.inr ⟨(ow hw 21 rfl), rfl, hnm⟩) (ow hw 6 rfl) (ty := .byte) (v' := .int (nar .byte cd)) (by decide) rfl (fits_nar_byte _) g1 (own_mem (List.mem_of_getElem? (i := 0) rfl)) rfl rfl (hb hby d_jdk_42_149_48) fun T98 h100 H99 W101 => ?_
    have K102 : Keep h0 h100 [a1] := K85.wr W101 (Or.inl (List.mem_of_getElem? (i := 0) rfl))
    have f103 := f86.wr W101
    have f104 := f87.other W101 (Or.inr (slot_ne (Or.inr (ow hw 20 rfl)) (Or.inr (ow hw 21 rfl)) (by decide) (t := (.array .byte)) (t' := .byte) (by decide) (by decide)))
    have f105 := f88.same W101
    have f106 := f89.other W101 hab
    have f107 := VC.other W101 ner
    show Go p e below _ T98 (mkF m 51 #[.val (.ref a1), .val (.ref b1), .val (.int (0 : Int32)), .val (.int (Int32.ofNat nN)), .val .null, .val (.ref r1)] [])
    refine Go.of (fun _ => XS.aloadN H99.here hx rfl (hb hby d_jdk_42_149_51) rfl rfl) ?_
    show Go p e below _ T98 (mkF m 52 #[.val (.ref a1), .val (.ref b1), .val (.int (0 : Int32)), .val (.int (Int32.ofNat nN)), .val .null, .val (.ref r1)] [(.ref a1)])
    refine Go.of (fun _ => XS.aload H99.here hx rfl (hb hby d_jdk_42_149_52) rfl rfl) ?_
    show Go p e below _ T98 (mkF m 54 #[.val (.ref a1), .val (.ref b1), .val (.int (0 : Int32)), .val (.int (Int32.ofNat nN)), .val .null, .val (.ref r1)] [(.ref r1), (.ref a1)])
    refine own_putF H99 hx hown (host := "") (Or.inl (ow hw 24 rfl)) Via.refl f104 f103 (Or.inr ⟨(ow hw 20 rfl), rfl, hnm⟩) (ow hw 6 rfl) (ty := (.array .byte)) (by decide) rfl rfl g1 (own_mem (List.mem_of_getElem? (i := 0) rfl)) rfl rfl (hb hby d_jdk_42_149_54) fun T108 h110 H109 W111 => ?_
    have K112 : Keep h0 h110 [a1] := K102.wr W111 (Or.inl (List.mem_of_getElem? (i := 0) rfl))
    have f113 := f103.wr W111
    have f114 := f104.same W111
    have f115 := f105.other W111 (Or.inr (slot_ne (Or.inr (ow hw 21 rfl)) (Or.inr (ow hw 20 rfl)) (by decide) (t := .byte) (t' := (.array .byte)) (by decide) (by decide)))
    have f116 := f106.other W111 hab
    have f117 := f107.other W111 ner
    show Go p e below _ T108 (mkF m 57 #[.val (.ref a1), .val (.ref b1), .val (.int (0 : Int32)), .val (.int (Int32.ofNat nN)), .val .null, .val (.ref r1)] [])
    exact own_ret H109 hx hlk hret (hb hby d_jdk_42_149_57) all0 ⟨rfl, K112, _, _, cd, M2, vs, f113, by have := f115; rw [own_cdn hcd] at this; exact this, f114, f117, hcd, hp⟩ (by decide) (by decide)
set_option maxRecDepth 65536 in
set_option maxHeartbeats 40000000 in
theorem rm_s1 (l : Launch) (Z : State) (a0 : Array Value) (hw : ∀ d ∈ tables_1, d.before a0 Z = true) (hE : EW Z a0 ELx) (a1 : Addr) (b1 : Addr) (kc : ClassId) (nN : Nat) (cs : List Int32) (dc : Value) (zc : Int32) (h0 : Heap) (O0 : Ext Z.heap h0) (E1 : Exa Z h0 a1 "java/lang/String") (F1 : Fld Z h0 a1 "java/lang/String" "value" "[B" .null) (F2 : Fld Z h0 a1 "java/lang/String" "coder" "B" (.int 0)) (g1 : Z.heap.size ≤ a1) (hab : b1 ≠ a1) (V1 : Arv Z h0 b1 kc .char (Int32.ofNat nN) (cs.map Value.int) dc) (hl : cs.length = nN) (hN4 : nN ≤ 4) (hp : ∀ c ∈ cs, ¬ c < 0 ∧ ¬ (65535 : Int32) < c) (SC : Sta Z Z.heap "java/lang/String" "COMPACT_STRINGS" "Z" (.int zc)) (hzc : ¬ zc = 0) (SA : Sta Z Z.heap "java/lang/StringUTF16" "$assertionsDisabled" "Z" (.int 1)) (SHB : Sta Z Z.heap "java/lang/StringUTF16" "HI_BYTE_SHIFT" "I" (.int 0)) (SLB : Sta Z Z.heap "java/lang/StringUTF16" "LO_BYTE_SHIFT" "I" (.int 8)) :
    Ct l Z ELx a0 true (⟨"java/lang/String", "<init>", "([C)V"⟩ : MethodName) jdk_42_method_3_code 2 none [] ({ frames := 5, cells := 6, slots := 20, locals := 110 } : Room) #[(.ref a1), (.ref b1)] h0 [a1] (fun _ => []) (fun v h => v = none ∧ Keep h0 h [a1] ∧ own_str Z h a1 cs) := by
  refine own_enter (plainFor_of_name pn_1) hE O0 ?_
  intro p e s m below meth c s₁ hx hby hml hown hnm hret hlk H0
  refine Go.eq (ef_rm_s1 m a1 b1) ?_
  have K1 : Keep h0 h0 [a1] := Keep.refl _ _
  have hst := own_hst hw
  show Go p e below _ s₁ (mkF m 0 #[.val (.ref a1), .val (.ref b1)] [])
  refine Go.of (fun _ => XS.aloadN H0.here hx rfl (hb hby d_jdk_42_3_0) rfl rfl) ?_
  show Go p e below _ s₁ (mkF m 1 #[.val (.ref a1), .val (.ref b1)] [(.ref a1)])
  refine Go.of (fun _ => XS.aloadN H0.here hx rfl (hb hby d_jdk_42_3_1) rfl rfl) ?_
  show Go p e below _ s₁ (mkF m 2 #[.val (.ref a1), .val (.ref b1)] [(.ref b1), (.ref a1)])
  refine Go.of (fun _ => XS.iconst H0.here hx rfl (hb hby d_jdk_42_3_2)) ?_
  show Go p e below _ s₁ (mkF m 3 #[.val (.ref a1), .val (.ref b1)] [(.int (0 : Int32)), (.ref b1), (.ref a1)])
  refine Go.of (fun _ => XS.aloadN H0.here hx rfl (hb hby d_jdk_42_3_3) rfl rfl) ?_
  show Go p e below _ s₁ (mkF m 4 #[.val (.ref a1), .val (.ref b1)] [(.ref b1), (.int (0 : Int32)), (.ref b1), (.ref a1)])
  refine own_len H0 hx V1 rfl rfl (hb hby d_jdk_42_3_4) ?_
  show Go p e below _ s₁ (mkF m 5 #[.val (.ref a1), .val (.ref b1)] [(.int (Int32.ofNat nN)), (.int (0 : Int32)), (.ref b1), (.ref a1)])
  refine Go.of (fun _ => XS.aconstNull H0.here hx rfl (hb hby d_jdk_42_3_5)) ?_
  show Go p e below _ s₁ (mkF m 6 #[.val (.ref a1), .val (.ref b1)] [.null, (.int (Int32.ofNat nN)), (.int (0 : Int32)), (.ref b1), (.ref a1)])
  refine own_specialW H0 hx (y := (⟨"java/lang/String", "<init>", "([CIILjava/lang/Void;)V"⟩ : MethodName)) rfl hown (ow hw 11 rfl) (ow hw 12 rfl) (ow hw 7 rfl) (ow hw 14 rfl) (by decide) (W := 0) (rm_s2 l Z a0 hw hE a1 b1 kc nN cs dc zc h0 H0.old E1 F1 F2 g1 hab V1 hl hN4 hp SC hzc SA SHB SLB) (allS (List.mem_of_getElem? (i := 0) rfl) all0) (by decide) (by decide) rfl (by rw [hml]; rfl) (a := a1) (argsL := [(.ref b1), (.int (0 : Int32)), (.int (Int32.ofNat nN)), .null]) (rest := []) rfl (lenOf pd_7 rfl) rfl (by show 2 * 0 + _ ≤ _; exact Nat.le_of_eq rfl) (hb hby d_jdk_42_3_6) (by decide) (by decide) fun T2 h4 v6 H3 hs7 q5 => ?_
  obtain ⟨rfl, KK, SS⟩ := q5
  show Go p e below _ T2 (mkF m 9 #[.val (.ref a1), .val (.ref b1)] [])
  exact own_ret H3 hx hlk hret (hb hby d_jdk_42_3_9) all0 ⟨rfl, KK, SS⟩ (by decide) (by decide)
set_option maxRecDepth 65536 in
set_option maxHeartbeats 40000000 in
theorem rm_isl0 (l : Launch) (Z : State) (a0 : Array Value) (hw : ∀ d ∈ tables_1, d.before a0 Z = true) (hE : EW Z a0 ELx) (a1 : Addr) (zc : Int32) (h0 : Heap) (O0 : Ext Z.heap h0) (F1 : Fld Z h0 a1 "java/lang/String" "coder" "B" (.int 0)) (SC : Sta Z Z.heap "java/lang/String" "COMPACT_STRINGS" "Z" (.int zc)) (hzc : ¬ zc = 0) :
    Ct l Z ELx a0 true (⟨"java/lang/String", "isLatin1", "()Z"⟩ : MethodName) jdk_42_method_154_code 1 (some .boolean) [] ({ frames := 0, cells := 0, slots := 0, locals := 0 } : Room) #[(.ref a1)] h0 [] (fun _ => []) (fun v h => v = some (.int 1) ∧ h0 = h) := by
  refine own_enter (plainFor_of_name pn_1) hE O0 ?_
  intro p e s m below meth c s₁ hx hby hml hown hnm hret hlk H0
  refine Go.eq (ef_rm_isl0 m a1) ?_
  show Go p e below _ s₁ (mkF m 0 #[.val (.ref a1)] [])
  refine own_getS H0 hx hown (host := "") (Or.inl (ow hw 35 rfl)) Via.refl SC rfl (hb hby d_jdk_42_154_0) fun T1 H2 => ?_
  show Go p e below _ T1 (mkF m 3 #[.val (.ref a1)] [(.int zc)])
  refine Go.of (fun _ => XS.ifNo H2.here hx rfl (hb hby d_jdk_42_154_3) rfl ((if0 _ _).trans (feq hzc).1)) ?_
  show Go p e below _ T1 (mkF m 6 #[.val (.ref a1)] [])
  refine Go.of (fun _ => XS.aloadN H2.here hx rfl (hb hby d_jdk_42_154_6) rfl rfl) ?_
  show Go p e below _ T1 (mkF m 7 #[.val (.ref a1)] [(.ref a1)])
  refine own_getF H2 hx hown (host := "") (Or.inl (ow hw 25 rfl)) Via.refl F1 rfl rfl (hb hby d_jdk_42_154_7) fun T3 H4 => ?_
  show Go p e below _ T3 (mkF m 10 #[.val (.ref a1)] [(.int (0 : Int32))])
  refine Go.of (fun _ => XS.ifNo H4.here hx rfl (hb hby d_jdk_42_154_10) rfl ((if0 _ _).trans (teq (by decide : (0 : Int32) = (0 : Int32))).2)) ?_
  show Go p e below _ T3 (mkF m 13 #[.val (.ref a1)] [])
  refine Go.of (fun _ => XS.iconst H4.here hx rfl (hb hby d_jdk_42_154_13)) ?_
  show Go p e below _ T3 (mkF m 14 #[.val (.ref a1)] [(.int (1 : Int32))])
  refine Go.of (fun _ => XS.goto H4.here hx rfl (pc0 := 14) (pc' := 18) rfl (hb hby d_jdk_42_154_14) (by decide) (by decide)) ?_
  show Go p e below _ T3 (mkF m 18 #[.val (.ref a1)] [(.int (1 : Int32))])
  exact own_retN H4 hx hlk (t := .boolean) hret (by simp) (hb hby d_jdk_42_154_18) all0 ⟨rfl, rfl⟩ (by decide) (by decide)
set_option maxRecDepth 65536 in
set_option maxHeartbeats 40000000 in
theorem rm_isl1 (l : Launch) (Z : State) (a0 : Array Value) (hw : ∀ d ∈ tables_1, d.before a0 Z = true) (hE : EW Z a0 ELx) (a1 : Addr) (zc : Int32) (h0 : Heap) (O0 : Ext Z.heap h0) (F1 : Fld Z h0 a1 "java/lang/String" "coder" "B" (.int 1)) (SC : Sta Z Z.heap "java/lang/String" "COMPACT_STRINGS" "Z" (.int zc)) (hzc : ¬ zc = 0) :
    Ct l Z ELx a0 true (⟨"java/lang/String", "isLatin1", "()Z"⟩ : MethodName) jdk_42_method_154_code 1 (some .boolean) [] ({ frames := 0, cells := 0, slots := 0, locals := 0 } : Room) #[(.ref a1)] h0 [] (fun _ => []) (fun v h => v = some (.int 0) ∧ h0 = h) := by
  refine own_enter (plainFor_of_name pn_1) hE O0 ?_
  intro p e s m below meth c s₁ hx hby hml hown hnm hret hlk H0
  refine Go.eq (ef_rm_isl1 m a1) ?_
  show Go p e below _ s₁ (mkF m 0 #[.val (.ref a1)] [])
  refine own_getS H0 hx hown (host := "") (Or.inl (ow hw 35 rfl)) Via.refl SC rfl (hb hby d_jdk_42_154_0) fun T1 H2 => ?_
  show Go p e below _ T1 (mkF m 3 #[.val (.ref a1)] [(.int zc)])
  refine Go.of (fun _ => XS.ifNo H2.here hx rfl (hb hby d_jdk_42_154_3) rfl ((if0 _ _).trans (feq hzc).1)) ?_
  show Go p e below _ T1 (mkF m 6 #[.val (.ref a1)] [])
  refine Go.of (fun _ => XS.aloadN H2.here hx rfl (hb hby d_jdk_42_154_6) rfl rfl) ?_
  show Go p e below _ T1 (mkF m 7 #[.val (.ref a1)] [(.ref a1)])
  refine own_getF H2 hx hown (host := "") (Or.inl (ow hw 25 rfl)) Via.refl F1 rfl rfl (hb hby d_jdk_42_154_7) fun T3 H4 => ?_
  show Go p e below _ T3 (mkF m 10 #[.val (.ref a1)] [(.int (1 : Int32))])
  refine Go.of (fun _ => XS.ifYes H4.here hx rfl (pc0 := 10) (pc' := 17) rfl (hb hby d_jdk_42_154_10) rfl ((if0 _ _).trans (feq (by decide : ¬ ((1 : Int32) = (0 : Int32)))).2) (by decide) (by decide)) ?_
  show Go p e below _ T3 (mkF m 17 #[.val (.ref a1)] [])
  refine Go.of (fun _ => XS.iconst H4.here hx rfl (hb hby d_jdk_42_154_17)) ?_
  show Go p e below _ T3 (mkF m 18 #[.val (.ref a1)] [(.int (0 : Int32))])
  exact own_retN H4 hx hlk (t := .boolean) hret (by simp) (hb hby d_jdk_42_154_18) all0 ⟨rfl, rfl⟩ (by decide) (by decide)
set_option maxRecDepth 65536 in
set_option maxHeartbeats 40000000 in
theorem rm_pick (l : Launch) (Z : State) (a0 : Array Value) (hw : ∀ d ∈ tables_1, d.before a0 Z = true) (hE : EW Z a0 ELx) (p1 : Int32) (h0 : Heap) (O0 : Ext Z.heap h0) :
    Ct l Z ELx a0 true (⟨"com/example/brokerward/brokerward/rules/TopicFilterIsValidTopicNamePinLaw", "pick", "(I)C"⟩ : MethodName) method_2_code 2 (some .char) [] ({ frames := 0, cells := 0, slots := 0, locals := 0 } : Room) #[(.int p1)] h0 [] (fun _ => []) (fun v h => v = some (.int (own_pick p1)) ∧ h0 = h) := by
  refine own_enter (plainFor_of_name pn_2) hE O0 ?_
  intro p e s m below meth c s₁ hx hby hml hown hnm hret hlk H0
  refine Go.eq (ef_rm_pick m p1) ?_
  show Go p e below _ s₁ (mkF m 0 #[.val (.int p1), .unset] [])
  refine Go.of (fun _ => XS.iloadN H0.here hx rfl (hb hby d_2_0) rfl) ?_
  show Go p e below _ s₁ (mkF m 1 #[.val (.int p1), .unset] [(.int p1)])
  refine Go.of (fun _ => XS.bipush H0.here hx rfl (hb hby d_2_1)) ?_
  show Go p e below _ s₁ (mkF m 3 #[.val (.int p1), .unset] [(.int (16 : Int32)), (.int p1)])
  refine Go.of (fun _ => XS.iushr H0.here hx rfl (hb hby d_2_3) rfl) ?_
  show Go p e below _ s₁ (mkF m 4 #[.val (.int p1), .unset] [(.int ((p1.toUInt32 >>> ((16 : Int32) &&& 31).toUInt32).toInt32))])
  refine Go.of (fun _ => XS.iconst H0.here hx rfl (hb hby d_2_4)) ?_
  show Go p e below _ s₁ (mkF m 5 #[.val (.int p1), .unset] [(.int (3 : Int32)), (.int ((p1.toUInt32 >>> ((16 : Int32) &&& 31).toUInt32).toInt32))])
  refine Go.of (fun _ => XS.iand H0.here hx rfl (hb hby d_2_5) rfl) ?_
  show Go p e below _ s₁ (mkF m 6 #[.val (.int p1), .unset] [(.int (((p1.toUInt32 >>> ((16 : Int32) &&& 31).toUInt32).toInt32) &&& (3 : Int32)))])
  refine Go.of (fun _ => XS.istoreN H0.here hx rfl (hb hby d_2_6) rfl (l' := #[.val (.int p1), .val (.int (((p1.toUInt32 >>> ((16 : Int32) &&& 31).toUInt32).toInt32) &&& (3 : Int32)))]) rfl) ?_
  show Go p e below _ s₁ (mkF m 7 #[.val (.int p1), .val (.int (((p1.toUInt32 >>> ((16 : Int32) &&& 31).toUInt32).toInt32) &&& (3 : Int32)))] [])
  refine Go.of (fun _ => XS.iloadN H0.here hx rfl (hb hby d_2_7) rfl) ?_
  show Go p e below _ s₁ (mkF m 8 #[.val (.int p1), .val (.int (((p1.toUInt32 >>> ((16 : Int32) &&& 31).toUInt32).toInt32) &&& (3 : Int32)))] [(.int (((p1.toUInt32 >>> ((16 : Int32) &&& 31).toUInt32).toInt32) &&& (3 : Int32)))])
  by_cases hbr1 : (((p1.toUInt32 >>> ((16 : Int32) &&& 31).toUInt32).toInt32) &&& (3 : Int32)) = (0 : Int32)
  · skip
    refine Go.of (fun _ => XS.ifNo H0.here hx rfl (hb hby d_2_8) rfl ((if0 _ _).trans (teq hbr1).2)) ?_
    show Go p e below _ s₁ (mkF m 11 #[.val (.int p1), .val (.int (((p1.toUInt32 >>> ((16 : Int32) &&& 31).toUInt32).toInt32) &&& (3 : Int32)))] [])
    refine Go.of (fun _ => XS.iconst H0.here hx rfl (hb hby d_2_11)) ?_
    show Go p e below _ s₁ (mkF m 12 #[.val (.int p1), .val (.int (((p1.toUInt32 >>> ((16 : Int32) &&& 31).toUInt32).toInt32) &&& (3 : Int32)))] [(.int (0 : Int32))])
    exact own_retN H0 hx hlk (t := .char) hret (by simp) (hb hby d_2_12) all0 ⟨by rw [← own_narc16 (own_pickr p1)]; unfold own_pick; rw [if_pos hbr1], rfl⟩ (by decide) (by decide)
  · skip
    refine Go.of (fun _ => XS.ifYes H0.here hx rfl (pc0 := 8) (pc' := 13) rfl (hb hby d_2_8) rfl ((if0 _ _).trans (feq hbr1).2) (by decide) (by decide)) ?_
    show Go p e below _ s₁ (mkF m 13 #[.val (.int p1), .val (.int (((p1.toUInt32 >>> ((16 : Int32) &&& 31).toUInt32).toInt32) &&& (3 : Int32)))] [])
    refine Go.of (fun _ => XS.iloadN H0.here hx rfl (hb hby d_2_13) rfl) ?_
    show Go p e below _ s₁ (mkF m 14 #[.val (.int p1), .val (.int (((p1.toUInt32 >>> ((16 : Int32) &&& 31).toUInt32).toInt32) &&& (3 : Int32)))] [(.int (((p1.toUInt32 >>> ((16 : Int32) &&& 31).toUInt32).toInt32) &&& (3 : Int32)))])
    refine Go.of (fun _ => XS.iconst H0.here hx rfl (hb hby d_2_14)) ?_
    show Go p e below _ s₁ (mkF m 15 #[.val (.int p1), .val (.int (((p1.toUInt32 >>> ((16 : Int32) &&& 31).toUInt32).toInt32) &&& (3 : Int32)))] [(.int (1 : Int32)), (.int (((p1.toUInt32 >>> ((16 : Int32) &&& 31).toUInt32).toInt32) &&& (3 : Int32)))])
    by_cases hbr2 : (((p1.toUInt32 >>> ((16 : Int32) &&& 31).toUInt32).toInt32) &&& (3 : Int32)) = (1 : Int32)
    · skip
      refine Go.of (fun _ => XS.icmpNo H0.here hx rfl (hb hby d_2_15) rfl (teq hbr2).2) ?_
      show Go p e below _ s₁ (mkF m 18 #[.val (.int p1), .val (.int (((p1.toUInt32 >>> ((16 : Int32) &&& 31).toUInt32).toInt32) &&& (3 : Int32)))] [])
      refine Go.of (fun _ => XS.bipush H0.here hx rfl (hb hby d_2_18)) ?_
      show Go p e below _ s₁ (mkF m 20 #[.val (.int p1), .val (.int (((p1.toUInt32 >>> ((16 : Int32) &&& 31).toUInt32).toInt32) &&& (3 : Int32)))] [(.int (43 : Int32))])
      exact own_retN H0 hx hlk (t := .char) hret (by simp) (hb hby d_2_20) all0 ⟨by rw [← own_narc16 (own_pickr p1)]; unfold own_pick; rw [if_neg hbr1, if_pos hbr2], rfl⟩ (by decide) (by decide)
    · skip
      refine Go.of (fun _ => XS.icmpYes H0.here hx rfl (pc0 := 15) (pc' := 21) rfl (hb hby d_2_15) rfl (feq hbr2).2 (by decide) (by decide)) ?_
      show Go p e below _ s₁ (mkF m 21 #[.val (.int p1), .val (.int (((p1.toUInt32 >>> ((16 : Int32) &&& 31).toUInt32).toInt32) &&& (3 : Int32)))] [])
      refine Go.of (fun _ => XS.iloadN H0.here hx rfl (hb hby d_2_21) rfl) ?_
      show Go p e below _ s₁ (mkF m 22 #[.val (.int p1), .val (.int (((p1.toUInt32 >>> ((16 : Int32) &&& 31).toUInt32).toInt32) &&& (3 : Int32)))] [(.int (((p1.toUInt32 >>> ((16 : Int32) &&& 31).toUInt32).toInt32) &&& (3 : Int32)))])
      refine Go.of (fun _ => XS.iconst H0.here hx rfl (hb hby d_2_22)) ?_
      show Go p e below _ s₁ (mkF m 23 #[.val (.int p1), .val (.int (((p1.toUInt32 >>> ((16 : Int32) &&& 31).toUInt32).toInt32) &&& (3 : Int32)))] [(.int (2 : Int32)), (.int (((p1.toUInt32 >>> ((16 : Int32) &&& 31).toUInt32).toInt32) &&& (3 : Int32)))])
      by_cases hbr3 : (((p1.toUInt32 >>> ((16 : Int32) &&& 31).toUInt32).toInt32) &&& (3 : Int32)) = (2 : Int32)
      · skip
        refine Go.of (fun _ => XS.icmpNo H0.here hx rfl (hb hby d_2_23) rfl (teq hbr3).2) ?_
        show Go p e below _ s₁ (mkF m 26 #[.val (.int p1), .val (.int (((p1.toUInt32 >>> ((16 : Int32) &&& 31).toUInt32).toInt32) &&& (3 : Int32)))] [])
        refine Go.of (fun _ => XS.bipush H0.here hx rfl (hb hby d_2_26)) ?_
        show Go p e below _ s₁ (mkF m 28 #[.val (.int p1), .val (.int (((p1.toUInt32 >>> ((16 : Int32) &&& 31).toUInt32).toInt32) &&& (3 : Int32)))] [(.int (35 : Int32))])
        exact own_retN H0 hx hlk (t := .char) hret (by simp) (hb hby d_2_28) all0 ⟨by rw [← own_narc16 (own_pickr p1)]; unfold own_pick; rw [if_neg hbr1, if_neg hbr2, if_pos hbr3], rfl⟩ (by decide) (by decide)
      · skip
        refine Go.of (fun _ => XS.icmpYes H0.here hx rfl (pc0 := 23) (pc' := 29) rfl (hb hby d_2_23) rfl (feq hbr3).2 (by decide) (by decide)) ?_
        show Go p e below _ s₁ (mkF m 29 #[.val (.int p1), .val (.int (((p1.toUInt32 >>> ((16 : Int32) &&& 31).toUInt32).toInt32) &&& (3 : Int32)))] [])
        refine Go.of (fun _ => XS.iloadN H0.here hx rfl (hb hby d_2_29) rfl) ?_
        show Go p e below _ s₁ (mkF m 30 #[.val (.int p1), .val (.int (((p1.toUInt32 >>> ((16 : Int32) &&& 31).toUInt32).toInt32) &&& (3 : Int32)))] [(.int p1)])
        refine own_ldcI H0 hx hown (ow hw 94 rfl) rfl (hb hby d_2_30) ?_
        show Go p e below _ s₁ (mkF m 32 #[.val (.int p1), .val (.int (((p1.toUInt32 >>> ((16 : Int32) &&& 31).toUInt32).toInt32) &&& (3 : Int32)))] [(.int (65535 : Int32)), (.int p1)])
        refine Go.of (fun _ => XS.iand H0.here hx rfl (hb hby d_2_32) rfl) ?_
        show Go p e below _ s₁ (mkF m 33 #[.val (.int p1), .val (.int (((p1.toUInt32 >>> ((16 : Int32) &&& 31).toUInt32).toInt32) &&& (3 : Int32)))] [(.int (p1 &&& (65535 : Int32)))])
        refine Go.of (fun _ => XS.i2c H0.here hx rfl (hb hby d_2_33) rfl) ?_
        show Go p e below _ s₁ (mkF m 34 #[.val (.int p1), .val (.int (((p1.toUInt32 >>> ((16 : Int32) &&& 31).toUInt32).toInt32) &&& (3 : Int32)))] [(.int ((p1 &&& (65535 : Int32)).toUInt32.toUInt16.toUInt32.toInt32))])
        exact own_retN H0 hx hlk (t := .char) hret (by simp) (hb hby d_2_34) all0 ⟨by rw [← own_narc16 (own_pickr p1)]; unfold own_pick; rw [if_neg hbr1, if_neg hbr2, if_neg hbr3], rfl⟩ (by decide) (by decide)
set_option maxRecDepth 65536 in
set_option maxHeartbeats 40000000 in
theorem rm_bad (l : Launch) (Z : State) (a0 : Array Value) (hw : ∀ d ∈ tables_1, d.before a0 Z = true) (hE : EW Z a0 ELx) (p1 : Int32) (h0 : Heap) (O0 : Ext Z.heap h0) :
    Ct l Z ELx a0 true (⟨"com/example/brokerward/brokerward/rules/TopicFilterIsValidTopicNamePinLaw", "bad", "(C)Z"⟩ : MethodName) method_3_code 1 (some .boolean) [] ({ frames := 0, cells := 0, slots := 0, locals := 0 } : Room) #[(.int p1)] h0 [] (fun _ => []) (fun v h => v = some (.int (if own_bd p1 then 1 else 0)) ∧ h0 = h) := by
  refine own_enter (plainFor_of_name pn_2) hE O0 ?_
  intro p e s m below meth c s₁ hx hby hml hown hnm hret hlk H0
  refine Go.eq (ef_rm_bad m p1) ?_
  show Go p e below _ s₁ (mkF m 0 #[.val (.int p1)] [])
  refine Go.of (fun _ => XS.iloadN H0.here hx rfl (hb hby d_3_0) rfl) ?_
  show Go p e below _ s₁ (mkF m 1 #[.val (.int p1)] [(.int p1)])
  refine Go.of (fun _ => XS.bipush H0.here hx rfl (hb hby d_3_1)) ?_
  show Go p e below _ s₁ (mkF m 3 #[.val (.int p1)] [(.int (43 : Int32)), (.int p1)])
  by_cases hbr1 : p1 = (43 : Int32)
  · skip
    refine Go.of (fun _ => XS.icmpYes H0.here hx rfl (pc0 := 3) (pc' := 16) rfl (hb hby d_3_3) rfl (teq hbr1).1 (by decide) (by decide)) ?_
    show Go p e below _ s₁ (mkF m 16 #[.val (.int p1)] [])
    refine Go.of (fun _ => XS.iconst H0.here hx rfl (hb hby d_3_16)) ?_
    show Go p e below _ s₁ (mkF m 17 #[.val (.int p1)] [(.int (1 : Int32))])
    refine Go.of (fun _ => XS.goto H0.here hx rfl (pc0 := 17) (pc' := 21) rfl (hb hby d_3_17) (by decide) (by decide)) ?_
    show Go p e below _ s₁ (mkF m 21 #[.val (.int p1)] [(.int (1 : Int32))])
    exact own_retN H0 hx hlk (t := .boolean) hret (by simp) (hb hby d_3_21) all0 ⟨by rw [if_pos (Or.inl hbr1)]; rfl, rfl⟩ (by decide) (by decide)
  · skip
    refine Go.of (fun _ => XS.icmpNo H0.here hx rfl (hb hby d_3_3) rfl (feq hbr1).1) ?_
    show Go p e below _ s₁ (mkF m 6 #[.val (.int p1)] [])
    refine Go.of (fun _ => XS.iloadN H0.here hx rfl (hb hby d_3_6) rfl) ?_
    show Go p e below _ s₁ (mkF m 7 #[.val (.int p1)] [(.int p1)])
    refine Go.of (fun _ => XS.bipush H0.here hx rfl (hb hby d_3_7)) ?_
    show Go p e below _ s₁ (mkF m 9 #[.val (.int p1)] [(.int (35 : Int32)), (.int p1)])
    by_cases hbr2 : p1 = (35 : Int32)
    · skip
      refine Go.of (fun _ => XS.icmpYes H0.here hx rfl (pc0 := 9) (pc' := 16) rfl (hb hby d_3_9) rfl (teq hbr2).1 (by decide) (by decide)) ?_
      show Go p e below _ s₁ (mkF m 16 #[.val (.int p1)] [])
      refine Go.of (fun _ => XS.iconst H0.here hx rfl (hb hby d_3_16)) ?_
      show Go p e below _ s₁ (mkF m 17 #[.val (.int p1)] [(.int (1 : Int32))])
      refine Go.of (fun _ => XS.goto H0.here hx rfl (pc0 := 17) (pc' := 21) rfl (hb hby d_3_17) (by decide) (by decide)) ?_
      show Go p e below _ s₁ (mkF m 21 #[.val (.int p1)] [(.int (1 : Int32))])
      exact own_retN H0 hx hlk (t := .boolean) hret (by simp) (hb hby d_3_21) all0 ⟨by rw [if_pos (Or.inr (Or.inl hbr2))]; rfl, rfl⟩ (by decide) (by decide)
    · skip
      refine Go.of (fun _ => XS.icmpNo H0.here hx rfl (hb hby d_3_9) rfl (feq hbr2).1) ?_
      show Go p e below _ s₁ (mkF m 12 #[.val (.int p1)] [])
      refine Go.of (fun _ => XS.iloadN H0.here hx rfl (hb hby d_3_12) rfl) ?_
      show Go p e below _ s₁ (mkF m 13 #[.val (.int p1)] [(.int p1)])
      by_cases hbr3 : p1 = (0 : Int32)
      · skip
        refine Go.of (fun _ => XS.ifNo H0.here hx rfl (hb hby d_3_13) rfl ((if0 _ _).trans (teq hbr3).2)) ?_
        show Go p e below _ s₁ (mkF m 16 #[.val (.int p1)] [])
        refine Go.of (fun _ => XS.iconst H0.here hx rfl (hb hby d_3_16)) ?_
        show Go p e below _ s₁ (mkF m 17 #[.val (.int p1)] [(.int (1 : Int32))])
        refine Go.of (fun _ => XS.goto H0.here hx rfl (pc0 := 17) (pc' := 21) rfl (hb hby d_3_17) (by decide) (by decide)) ?_
        show Go p e below _ s₁ (mkF m 21 #[.val (.int p1)] [(.int (1 : Int32))])
        exact own_retN H0 hx hlk (t := .boolean) hret (by simp) (hb hby d_3_21) all0 ⟨by rw [if_pos (Or.inr (Or.inr hbr3))]; rfl, rfl⟩ (by decide) (by decide)
      · skip
        refine Go.of (fun _ => XS.ifYes H0.here hx rfl (pc0 := 13) (pc' := 20) rfl (hb hby d_3_13) rfl ((if0 _ _).trans (feq hbr3).2) (by decide) (by decide)) ?_
        show Go p e below _ s₁ (mkF m 20 #[.val (.int p1)] [])
        refine Go.of (fun _ => XS.iconst H0.here hx rfl (hb hby d_3_20)) ?_
        show Go p e below _ s₁ (mkF m 21 #[.val (.int p1)] [(.int (0 : Int32))])
        exact own_retN H0 hx hlk (t := .boolean) hret (by simp) (hb hby d_3_21) all0 ⟨by rw [if_neg (fun q => q.elim hbr1 (fun q => q.elim hbr2 hbr3))]; rfl, rfl⟩ (by decide) (by decide)
set_option maxRecDepth 65536 in
set_option maxHeartbeats 40000000 in
theorem rm_max (l : Launch) (Z : State) (a0 : Array Value) (hw : ∀ d ∈ tables_1, d.before a0 Z = true) (hE : EW Z a0 ELx) (p1 : Int32) (p2 : Int32) (h0 : Heap) (O0 : Ext Z.heap h0) :
    Ct l Z ELx a0 true (⟨"java/lang/Math", "max", "(II)I"⟩ : MethodName) jdk_29_method_65_code 2 (some .int) [] ({ frames := 0, cells := 0, slots := 0, locals := 0 } : Room) #[(.int p1), (.int p2)] h0 [] (fun _ => []) (fun v h => v = some (.int (if p1 < p2 then p2 else p1)) ∧ h0 = h) := by
  refine own_enter (Jvm.Free.JP.mathPlain rfl (by decide +kernel)) hE O0 ?_
  intro p e s m below meth c s₁ hx hby hml hown hnm hret hlk H0
  refine Go.eq (ef_rm_max m p1 p2) ?_
  show Go p e below _ s₁ (mkF m 0 #[.val (.int p1), .val (.int p2)] [])
  refine Go.of (fun _ => XS.iloadN H0.here hx rfl (hb hby d_jdk_29_65_0) rfl) ?_
  show Go p e below _ s₁ (mkF m 1 #[.val (.int p1), .val (.int p2)] [(.int p1)])
  refine Go.of (fun _ => XS.iloadN H0.here hx rfl (hb hby d_jdk_29_65_1) rfl) ?_
  show Go p e below _ s₁ (mkF m 2 #[.val (.int p1), .val (.int p2)] [(.int p2), (.int p1)])
  by_cases hbr1 : p1 < p2
  · skip
    refine Go.of (fun _ => XS.icmpYes H0.here hx rfl (pc0 := 2) (pc' := 9) rfl (hb hby d_jdk_29_65_2) rfl (tlt hbr1).1 (by decide) (by decide)) ?_
    show Go p e below _ s₁ (mkF m 9 #[.val (.int p1), .val (.int p2)] [])
    refine Go.of (fun _ => XS.iloadN H0.here hx rfl (hb hby d_jdk_29_65_9) rfl) ?_
    show Go p e below _ s₁ (mkF m 10 #[.val (.int p1), .val (.int p2)] [(.int p2)])
    exact own_retI H0 hx hlk hret (hb hby d_jdk_29_65_10) all0 ⟨by rw [if_pos hbr1], rfl⟩ (by decide) (by decide)
  · skip
    refine Go.of (fun _ => XS.icmpNo H0.here hx rfl (hb hby d_jdk_29_65_2) rfl (flt hbr1).1) ?_
    show Go p e below _ s₁ (mkF m 5 #[.val (.int p1), .val (.int p2)] [])
    refine Go.of (fun _ => XS.iloadN H0.here hx rfl (hb hby d_jdk_29_65_5) rfl) ?_
    show Go p e below _ s₁ (mkF m 6 #[.val (.int p1), .val (.int p2)] [(.int p1)])
    refine Go.of (fun _ => XS.goto H0.here hx rfl (pc0 := 6) (pc' := 10) rfl (hb hby d_jdk_29_65_6) (by decide) (by decide)) ?_
    show Go p e below _ s₁ (mkF m 10 #[.val (.int p1), .val (.int p2)] [(.int p1)])
    exact own_retI H0 hx hlk hret (hb hby d_jdk_29_65_10) all0 ⟨by rw [if_neg hbr1], rfl⟩ (by decide) (by decide)
set_option maxRecDepth 65536 in
set_option maxHeartbeats 40000000 in
theorem rm_min (l : Launch) (Z : State) (a0 : Array Value) (hw : ∀ d ∈ tables_1, d.before a0 Z = true) (hE : EW Z a0 ELx) (p1 : Int32) (p2 : Int32) (h0 : Heap) (O0 : Ext Z.heap h0) :
    Ct l Z ELx a0 true (⟨"java/lang/Math", "min", "(II)I"⟩ : MethodName) jdk_29_method_69_code 2 (some .int) [] ({ frames := 0, cells := 0, slots := 0, locals := 0 } : Room) #[(.int p1), (.int p2)] h0 [] (fun _ => []) (fun v h => v = some (.int (if p2 < p1 then p2 else p1)) ∧ h0 = h) := by
  refine own_enter (Jvm.Free.JP.mathPlain rfl (by decide +kernel)) hE O0 ?_
  intro p e s m below meth c s₁ hx hby hml hown hnm hret hlk H0
  refine Go.eq (ef_rm_min m p1 p2) ?_
  show Go p e below _ s₁ (mkF m 0 #[.val (.int p1), .val (.int p2)] [])
  refine Go.of (fun _ => XS.iloadN H0.here hx rfl (hb hby d_jdk_29_69_0) rfl) ?_
  show Go p e below _ s₁ (mkF m 1 #[.val (.int p1), .val (.int p2)] [(.int p1)])
  refine Go.of (fun _ => XS.iloadN H0.here hx rfl (hb hby d_jdk_29_69_1) rfl) ?_
  show Go p e below _ s₁ (mkF m 2 #[.val (.int p1), .val (.int p2)] [(.int p2), (.int p1)])
  by_cases hbr1 : p2 < p1
  · skip
    refine Go.of (fun _ => XS.icmpYes H0.here hx rfl (pc0 := 2) (pc' := 9) rfl (hb hby d_jdk_29_69_2) rfl (tlt hbr1).2.2.1 (by decide) (by decide)) ?_
    show Go p e below _ s₁ (mkF m 9 #[.val (.int p1), .val (.int p2)] [])
    refine Go.of (fun _ => XS.iloadN H0.here hx rfl (hb hby d_jdk_29_69_9) rfl) ?_
    show Go p e below _ s₁ (mkF m 10 #[.val (.int p1), .val (.int p2)] [(.int p2)])
    exact own_retI H0 hx hlk hret (hb hby d_jdk_29_69_10) all0 ⟨by rw [if_pos hbr1], rfl⟩ (by decide) (by decide)
  · skip
    refine Go.of (fun _ => XS.icmpNo H0.here hx rfl (hb hby d_jdk_29_69_2) rfl (flt hbr1).2.2.1) ?_
    show Go p e below _ s₁ (mkF m 5 #[.val (.int p1), .val (.int p2)] [])
    refine Go.of (fun _ => XS.iloadN H0.here hx rfl (hb hby d_jdk_29_69_5) rfl) ?_
    show Go p e below _ s₁ (mkF m 6 #[.val (.int p1), .val (.int p2)] [(.int p1)])
    refine Go.of (fun _ => XS.goto H0.here hx rfl (pc0 := 6) (pc' := 10) rfl (hb hby d_jdk_29_69_6) (by decide) (by decide)) ?_
    show Go p e below _ s₁ (mkF m 10 #[.val (.int p1), .val (.int p2)] [(.int p1)])
    exact own_retI H0 hx hlk hret (hb hby d_jdk_29_69_10) all0 ⟨by rw [if_neg hbr1], rfl⟩ (by decide) (by decide)
set_option maxRecDepth 65536 in
set_option maxHeartbeats 40000000 in
theorem rm_lce (l : Launch) (Z : State) (a0 : Array Value) (hw : ∀ d ∈ tables_1, d.before a0 Z = true) (hE : EW Z a0 ELx) (q1 : Int32) (h0 : Heap) (O0 : Ext Z.heap h0) (hq1 : ¬ q1 < (0 : Int32) ∧ ¬ (255 : Int32) < q1) :
    Ct l Z ELx a0 true (⟨"java/lang/StringLatin1", "canEncode", "(I)Z"⟩ : MethodName) jdk_43_method_4_code 1 (some .boolean) [] ({ frames := 0, cells := 0, slots := 0, locals := 0 } : Room) #[(.int q1)] h0 [] (fun _ => []) (fun v h => v = some (.int 1) ∧ h0 = h) := by
  refine own_enter (plainFor_of_name pn_3) hE O0 ?_
  intro p e s m below meth c s₁ hx hby hml hown hnm hret hlk H0
  refine Go.eq (ef_rm_lce m q1) ?_
  show Go p e below _ s₁ (mkF m 0 #[.val (.int q1)] [])
  refine Go.of (fun _ => XS.iloadN H0.here hx rfl (hb hby d_jdk_43_4_0) rfl) ?_
  show Go p e below _ s₁ (mkF m 1 #[.val (.int q1)] [(.int q1)])
  refine Go.of (fun _ => XS.ifNo H0.here hx rfl (hb hby d_jdk_43_4_1) rfl ((if0 _ _).trans (flt hq1.1).1)) ?_
  show Go p e below _ s₁ (mkF m 4 #[.val (.int q1)] [])
  refine Go.of (fun _ => XS.iloadN H0.here hx rfl (hb hby d_jdk_43_4_4) rfl) ?_
  show Go p e below _ s₁ (mkF m 5 #[.val (.int q1)] [(.int q1)])
  refine Go.of (fun _ => XS.sipush H0.here hx rfl (hb hby d_jdk_43_4_5)) ?_
  show Go p e below _ s₁ (mkF m 8 #[.val (.int q1)] [(.int (255 : Int32)), (.int q1)])
  refine Go.of (fun _ => XS.icmpNo H0.here hx rfl (hb hby d_jdk_43_4_8) rfl (flt hq1.2).2.2.1) ?_
  show Go p e below _ s₁ (mkF m 11 #[.val (.int q1)] [])
  refine Go.of (fun _ => XS.iconst H0.here hx rfl (hb hby d_jdk_43_4_11)) ?_
  show Go p e below _ s₁ (mkF m 12 #[.val (.int q1)] [(.int (1 : Int32))])
  refine Go.of (fun _ => XS.goto H0.here hx rfl (pc0 := 12) (pc' := 16) rfl (hb hby d_jdk_43_4_12) (by decide) (by decide)) ?_
  show Go p e below _ s₁ (mkF m 16 #[.val (.int q1)] [(.int (1 : Int32))])
  exact own_retN H0 hx hlk (t := .boolean) hret (by simp) (hb hby d_jdk_43_4_16) all0 ⟨rfl, rfl⟩ (by decide) (by decide)
set_option maxRecDepth 65536 in
set_option maxHeartbeats 40000000 in
theorem rm_lic (l : Launch) (Z : State) (a0 : Array Value) (hw : ∀ d ∈ tables_1, d.before a0 Z = true) (hE : EW Z a0 ELx) (b1 : Addr) (kb : ClassId) (nN : Nat) (cs : List Int32) (q1 : Int32) (h0 : Heap) (O0 : Ext Z.heap h0) (V1 : Arv Z h0 b1 kb .byte (Int32.ofNat nN) (cs.map fun c => Value.int (StrChars.lo8 c)) (.int 0)) (hl : cs.length = nN) (hN4 : nN ≤ 4) (hp : ∀ c ∈ cs, ¬ c < 0 ∧ ¬ (65535 : Int32) < c) (hlat : ∀ c ∈ cs, ¬ (255 : Int32) < c) (hq1 : ¬ q1 < (0 : Int32) ∧ ¬ (255 : Int32) < q1) :
    Ct l Z ELx a0 true (⟨"java/lang/StringLatin1", "indexOfChar", "([BIII)I"⟩ : MethodName) jdk_43_method_23_code 6 (some .int) [] ({ frames := 0, cells := 0, slots := 0, locals := 0 } : Room) #[(.ref b1), (.int q1), (.int (0 : Int32)), (.int (Int32.ofNat nN))] h0 [] (fun _ => []) (fun v h => ∃ r : Int32, v = some (.int r) ∧ h0 = h ∧ (r < 0 ↔ ¬ q1 ∈ cs)) := by
  refine own_enter (plainFor_of_name pn_3) hE O0 ?_
  intro p e s m below meth c s₁ hx hby hml hown hnm hret hlk H0
  refine Go.eq (ef_rm_lic m b1 q1 (0 : Int32) (Int32.ofNat nN)) ?_
  have K1 : Keep h0 h0 [] := Keep.refl _ _
  have LX : ∀ (k1 i1 : Nat) (T : State) (h : Heap), (i1 + k1 = nN) → (Wk p l e ({ frames := 0, cells := 0, slots := 0, locals := 0 } : Room) s m #[(.ref b1), (.int q1), (.int (0 : Int32)), (.int (Int32.ofNat nN))] below meth c Z ELx a0 true T h 0 0 []) → (Keep h0 h []) → (Arv Z h b1 kb .byte (Int32.ofNat nN) (cs.map fun c => Value.int (StrChars.lo8 c)) (.int 0)) → (h0 = h) → (∀ j, j < i1 → ¬ cs.getD j 0 = q1) → Go p e below (own_fin Z ELx true s below (fun v h => ∃ r : Int32, v = some (.int r) ∧ h0 = h ∧ (r < 0 ↔ ¬ q1 ∈ cs)) (({ frames := 0, cells := 0, slots := 0, locals := 0 } : Room)).cells (({ frames := 0, cells := 0, slots := 0, locals := 0 } : Room)).slots (fun _ => [])) T (mkF m 7 #[.val (.ref b1), .val (.int q1), .val (.int (0 : Int32)), .val (.int (Int32.ofNat nN)), .val (.int (q1.toInt8.toInt32)), .val (.int (Int32.ofNat i1))] []) := by
    intro k1
    induction k1 with
    | zero =>
      intro i1 T h hk1 H K1 VB he hall
      have hlt : ¬ (Int32.ofNat i1) < (Int32.ofNat nN) := by rw [own_onlt (by omega) (by omega)]; omega
      show Go p e below _ T (mkF m 7 #[.val (.ref b1), .val (.int q1), .val (.int (0 : Int32)), .val (.int (Int32.ofNat nN)), .val (.int (q1.toInt8.toInt32)), .val (.int (Int32.ofNat i1))] [])
      refine Go.of (fun _ => XS.iload H.here hx rfl (hb hby d_jdk_43_23_7) rfl) ?_
      show Go p e below _ T (mkF m 9 #[.val (.ref b1), .val (.int q1), .val (.int (0 : Int32)), .val (.int (Int32.ofNat nN)), .val (.int (q1.toInt8.toInt32)), .val (.int (Int32.ofNat i1))] [(.int (Int32.ofNat i1))])
      refine Go.of (fun _ => XS.iloadN H.here hx rfl (hb hby d_jdk_43_23_9) rfl) ?_
      show Go p e below _ T (mkF m 10 #[.val (.ref b1), .val (.int q1), .val (.int (0 : Int32)), .val (.int (Int32.ofNat nN)), .val (.int (q1.toInt8.toInt32)), .val (.int (Int32.ofNat i1))] [(.int (Int32.ofNat nN)), (.int (Int32.ofNat i1))])
      refine Go.of (fun _ => XS.icmpYes H.here hx rfl (pc0 := 10) (pc' := 31) rfl (hb hby d_jdk_43_23_10) rfl (flt hlt).2.1 (by decide) (by decide)) ?_
      show Go p e below _ T (mkF m 31 #[.val (.ref b1), .val (.int q1), .val (.int (0 : Int32)), .val (.int (Int32.ofNat nN)), .val (.int (q1.toInt8.toInt32)), .val (.int (Int32.ofNat i1))] [])
      refine Go.of (fun _ => XS.iconst H.here hx rfl (hb hby d_jdk_43_23_31)) ?_
      show Go p e below _ T (mkF m 32 #[.val (.ref b1), .val (.int q1), .val (.int (0 : Int32)), .val (.int (Int32.ofNat nN)), .val (.int (q1.toInt8.toInt32)), .val (.int (Int32.ofNat i1))] [(.int (-1 : Int32))])
      exact own_retI H hx hlk hret (hb hby d_jdk_43_23_32) all0 ⟨_, rfl, he, own_ixF hl (fun j hj => hall j (by omega))⟩ (by decide) (by decide)
    | succ k1 ih =>
      intro i1 T h hk1 H K1 VB he hall
      have hlt : (Int32.ofNat i1) < (Int32.ofNat nN) := by rw [own_onlt (by omega) (by omega)]; omega
      show Go p e below _ T (mkF m 7 #[.val (.ref b1), .val (.int q1), .val (.int (0 : Int32)), .val (.int (Int32.ofNat nN)), .val (.int (q1.toInt8.toInt32)), .val (.int (Int32.ofNat i1))] [])
      refine Go.of (fun _ => XS.iload H.here hx rfl (hb hby d_jdk_43_23_7) rfl) ?_
      show Go p e below _ T (mkF m 9 #[.val (.ref b1), .val (.int q1), .val (.int (0 : Int32)), .val (.int (Int32.ofNat nN)), .val (.int (q1.toInt8.toInt32)), .val (.int (Int32.ofNat i1))] [(.int (Int32.ofNat i1))])
      refine Go.of (fun _ => XS.iloadN H.here hx rfl (hb hby d_jdk_43_23_9) rfl) ?_
      show Go p e below _ T (mkF m 10 #[.val (.ref b1), .val (.int q1), .val (.int (0 : Int32)), .val (.int (Int32.ofNat nN)), .val (.int (q1.toInt8.toInt32)), .val (.int (Int32.ofNat i1))] [(.int (Int32.ofNat nN)), (.int (Int32.ofNat i1))])
      refine Go.of (fun _ => XS.icmpNo H.here hx rfl (hb hby d_jdk_43_23_10) rfl (tlt hlt).2.1) ?_
      show Go p e below _ T (mkF m 13 #[.val (.ref b1), .val (.int q1), .val (.int (0 : Int32)), .val (.int (Int32.ofNat nN)), .val (.int (q1.toInt8.toInt32)), .val (.int (Int32.ofNat i1))] [])
      refine Go.of (fun _ => XS.aloadN H.here hx rfl (hb hby d_jdk_43_23_13) rfl rfl) ?_
      show Go p e below _ T (mkF m 14 #[.val (.ref b1), .val (.int q1), .val (.int (0 : Int32)), .val (.int (Int32.ofNat nN)), .val (.int (q1.toInt8.toInt32)), .val (.int (Int32.ofNat i1))] [(.ref b1)])
      refine Go.of (fun _ => XS.iload H.here hx rfl (hb hby d_jdk_43_23_14) rfl) ?_
      show Go p e below _ T (mkF m 16 #[.val (.ref b1), .val (.int q1), .val (.int (0 : Int32)), .val (.int (Int32.ofNat nN)), .val (.int (q1.toInt8.toInt32)), .val (.int (Int32.ofNat i1))] [(.int (Int32.ofNat i1)), (.ref b1)])
      refine own_baload H hx VB ⟨own_on0 (by omega), (own_onlt (by omega) (by omega)).mpr (by omega)⟩ (v := (.int (StrChars.lo8 (cs.getD i1 0)))) (by rw [own_onc (by omega)]; exact StrChars.Road.low_at _ _ _ (by omega)) rfl rfl (hb hby d_jdk_43_23_16) ?_
      show Go p e below _ T (mkF m 17 #[.val (.ref b1), .val (.int q1), .val (.int (0 : Int32)), .val (.int (Int32.ofNat nN)), .val (.int (q1.toInt8.toInt32)), .val (.int (Int32.ofNat i1))] [(.int (StrChars.lo8 (cs.getD i1 0)))])
      refine Go.of (fun _ => XS.iload H.here hx rfl (hb hby d_jdk_43_23_17) rfl) ?_
      show Go p e below _ T (mkF m 19 #[.val (.ref b1), .val (.int q1), .val (.int (0 : Int32)), .val (.int (Int32.ofNat nN)), .val (.int (q1.toInt8.toInt32)), .val (.int (Int32.ofNat i1))] [(.int (q1.toInt8.toInt32)), (.int (StrChars.lo8 (cs.getD i1 0)))])
      by_cases hbr2 : (StrChars.lo8 (cs.getD i1 0)) = (q1.toInt8.toInt32)
      · skip
        refine Go.of (fun _ => XS.icmpNo H.here hx rfl (hb hby d_jdk_43_23_19) rfl (teq hbr2).2) ?_
        show Go p e below _ T (mkF m 22 #[.val (.ref b1), .val (.int q1), .val (.int (0 : Int32)), .val (.int (Int32.ofNat nN)), .val (.int (q1.toInt8.toInt32)), .val (.int (Int32.ofNat i1))] [])
        refine Go.of (fun _ => XS.iload H.here hx rfl (hb hby d_jdk_43_23_22) rfl) ?_
        show Go p e below _ T (mkF m 24 #[.val (.ref b1), .val (.int q1), .val (.int (0 : Int32)), .val (.int (Int32.ofNat nN)), .val (.int (q1.toInt8.toInt32)), .val (.int (Int32.ofNat i1))] [(.int (Int32.ofNat i1))])
        exact own_retI H hx hlk hret (hb hby d_jdk_43_23_24) all0 ⟨_, rfl, he, own_ixT (by omega) (by omega) (own_lo8inj (hp _ (own_getm (by omega))).1 (hlat _ (own_getm (by omega))) hq1.1 hq1.2 hbr2)⟩ (by decide) (by decide)
      · skip
        refine Go.of (fun _ => XS.icmpYes H.here hx rfl (pc0 := 19) (pc' := 25) rfl (hb hby d_jdk_43_23_19) rfl (feq hbr2).2 (by decide) (by decide)) ?_
        show Go p e below _ T (mkF m 25 #[.val (.ref b1), .val (.int q1), .val (.int (0 : Int32)), .val (.int (Int32.ofNat nN)), .val (.int (q1.toInt8.toInt32)), .val (.int (Int32.ofNat i1))] [])
        refine Go.of (fun _ => XS.iinc H.here hx rfl (hb hby d_jdk_43_23_25) rfl (l' := #[.val (.ref b1), .val (.int q1), .val (.int (0 : Int32)), .val (.int (Int32.ofNat nN)), .val (.int (q1.toInt8.toInt32)), .val (.int ((Int32.ofNat i1) + (1 : Int32)))]) rfl) ?_
        show Go p e below _ T (mkF m 28 #[.val (.ref b1), .val (.int q1), .val (.int (0 : Int32)), .val (.int (Int32.ofNat nN)), .val (.int (q1.toInt8.toInt32)), .val (.int ((Int32.ofNat i1) + (1 : Int32)))] [])
        refine Go.of (fun _ => XS.goto H.here hx rfl (pc0 := 28) (pc' := 7) rfl (hb hby d_jdk_43_23_28) (by decide) (by decide)) ?_
        show Go p e below _ T (mkF m 7 #[.val (.ref b1), .val (.int q1), .val (.int (0 : Int32)), .val (.int (Int32.ofNat nN)), .val (.int (q1.toInt8.toInt32)), .val (.int ((Int32.ofNat i1) + (1 : Int32)))] [])
        rw [show (Int32.ofNat i1) + (1 : Int32) = Int32.ofNat (i1 + 1) from own_onadd i1 1]
        exact ih (i1 + 1) T h (by omega) H K1 VB he (fun j hj => if q : j = i1 then q ▸ (fun q => hbr2 (by rw [q]; rfl)) else hall j (by omega))
  show Go p e below _ s₁ (mkF m 0 #[.val (.ref b1), .val (.int q1), .val (.int (0 : Int32)), .val (.int (Int32.ofNat nN)), .unset, .unset] [])
  refine Go.of (fun _ => XS.iloadN H0.here hx rfl (hb hby d_jdk_43_23_0) rfl) ?_
  show Go p e below _ s₁ (mkF m 1 #[.val (.ref b1), .val (.int q1), .val (.int (0 : Int32)), .val (.int (Int32.ofNat nN)), .unset, .unset] [(.int q1)])
  refine Go.of (fun _ => XS.i2b H0.here hx rfl (hb hby d_jdk_43_23_1) rfl) ?_
  show Go p e below _ s₁ (mkF m 2 #[.val (.ref b1), .val (.int q1), .val (.int (0 : Int32)), .val (.int (Int32.ofNat nN)), .unset, .unset] [(.int (q1.toInt8.toInt32))])
  refine Go.of (fun _ => XS.istore H0.here hx rfl (hb hby d_jdk_43_23_2) rfl (l' := #[.val (.ref b1), .val (.int q1), .val (.int (0 : Int32)), .val (.int (Int32.ofNat nN)), .val (.int (q1.toInt8.toInt32)), .unset]) rfl) ?_
  show Go p e below _ s₁ (mkF m 4 #[.val (.ref b1), .val (.int q1), .val (.int (0 : Int32)), .val (.int (Int32.ofNat nN)), .val (.int (q1.toInt8.toInt32)), .unset] [])
  refine Go.of (fun _ => XS.iloadN H0.here hx rfl (hb hby d_jdk_43_23_4) rfl) ?_
  show Go p e below _ s₁ (mkF m 5 #[.val (.ref b1), .val (.int q1), .val (.int (0 : Int32)), .val (.int (Int32.ofNat nN)), .val (.int (q1.toInt8.toInt32)), .unset] [(.int (0 : Int32))])
  refine Go.of (fun _ => XS.istore H0.here hx rfl (hb hby d_jdk_43_23_5) rfl (l' := #[.val (.ref b1), .val (.int q1), .val (.int (0 : Int32)), .val (.int (Int32.ofNat nN)), .val (.int (q1.toInt8.toInt32)), .val (.int (0 : Int32))]) rfl) ?_
  show Go p e below _ s₁ (mkF m 7 #[.val (.ref b1), .val (.int q1), .val (.int (0 : Int32)), .val (.int (Int32.ofNat nN)), .val (.int (q1.toInt8.toInt32)), .val (.int (0 : Int32))] [])
  exact LX nN 0 s₁ h0 (Nat.zero_add _) H0 K1 V1 rfl (fun j hj => absurd hj (Nat.not_lt_zero j))
set_option maxRecDepth 65536 in
set_option maxHeartbeats 40000000 in
theorem rm_uiu (l : Launch) (Z : State) (a0 : Array Value) (hw : ∀ d ∈ tables_1, d.before a0 Z = true) (hE : EW Z a0 ELx) (b1 : Addr) (kb : ClassId) (nN : Nat) (cs : List Int32) (q1 : Int32) (h0 : Heap) (O0 : Ext Z.heap h0) (V1 : Arv Z h0 b1 kb .byte (Int32.ofNat (2 * nN)) (StrChars.Road.wideBytes cs) (.int 0)) (hl : cs.length = nN) (hN4 : nN ≤ 4) (hp : ∀ c ∈ cs, ¬ c < 0 ∧ ¬ (65535 : Int32) < c) (SA : Sta Z Z.heap "java/lang/StringUTF16" "$assertionsDisabled" "Z" (.int 1)) (SHB : Sta Z Z.heap "java/lang/StringUTF16" "HI_BYTE_SHIFT" "I" (.int 0)) (SLB : Sta Z Z.heap "java/lang/StringUTF16" "LO_BYTE_SHIFT" "I" (.int 8)) :
    Ct l Z ELx a0 true (⟨"java/lang/StringUTF16", "indexOfCharUnsafe", "([BIII)I"⟩ : MethodName) jdk_52_method_48_code 5 (some .int) [] ({ frames := 1, cells := 0, slots := 0, locals := 15 } : Room) #[(.ref b1), (.int q1), (.int (0 : Int32)), (.int (Int32.ofNat nN))] h0 [] (fun _ => []) (fun v h => ∃ r : Int32, v = some (.int r) ∧ h0 = h ∧ (r < 0 ↔ ¬ q1 ∈ cs)) := by
  refine own_enter (plainFor_of_name pn_0) hE O0 ?_
  intro p e s m below meth c s₁ hx hby hml hown hnm hret hlk H0
  refine Go.eq (ef_rm_uiu m b1 q1 (0 : Int32) (Int32.ofNat nN)) ?_
  have K1 : Keep h0 h0 [] := Keep.refl _ _
  have LX : ∀ (k1 i1 : Nat) (T : State) (h : Heap), (i1 + k1 = nN) → (Wk p l e ({ frames := 1, cells := 0, slots := 0, locals := 15 } : Room) s m #[(.ref b1), (.int q1), (.int (0 : Int32)), (.int (Int32.ofNat nN))] below meth c Z ELx a0 true T h 0 0 []) → (Keep h0 h []) → (Arv Z h b1 kb .byte (Int32.ofNat (2 * nN)) (StrChars.Road.wideBytes cs) (.int 0)) → (h0 = h) → (∀ j, j < i1 → ¬ cs.getD j 0 = q1) → Go p e below (own_fin Z ELx true s below (fun v h => ∃ r : Int32, v = some (.int r) ∧ h0 = h ∧ (r < 0 ↔ ¬ q1 ∈ cs)) (({ frames := 1, cells := 0, slots := 0, locals := 15 } : Room)).cells (({ frames := 1, cells := 0, slots := 0, locals := 15 } : Room)).slots (fun _ => [])) T (mkF m 3 #[.val (.ref b1), .val (.int q1), .val (.int (0 : Int32)), .val (.int (Int32.ofNat nN)), .val (.int (Int32.ofNat i1))] []) := by
    intro k1
    induction k1 with
    | zero =>
      intro i1 T h hk1 H K1 VB he hall
      have hlt : ¬ (Int32.ofNat i1) < (Int32.ofNat nN) := by rw [own_onlt (by omega) (by omega)]; omega
      show Go p e below _ T (mkF m 3 #[.val (.ref b1), .val (.int q1), .val (.int (0 : Int32)), .val (.int (Int32.ofNat nN)), .val (.int (Int32.ofNat i1))] [])
      refine Go.of (fun _ => XS.iload H.here hx rfl (hb hby d_jdk_52_48_3) rfl) ?_
      show Go p e below _ T (mkF m 5 #[.val (.ref b1), .val (.int q1), .val (.int (0 : Int32)), .val (.int (Int32.ofNat nN)), .val (.int (Int32.ofNat i1))] [(.int (Int32.ofNat i1))])
      refine Go.of (fun _ => XS.iloadN H.here hx rfl (hb hby d_jdk_52_48_5) rfl) ?_
      show Go p e below _ T (mkF m 6 #[.val (.ref b1), .val (.int q1), .val (.int (0 : Int32)), .val (.int (Int32.ofNat nN)), .val (.int (Int32.ofNat i1))] [(.int (Int32.ofNat nN)), (.int (Int32.ofNat i1))])
      refine Go.of (fun _ => XS.icmpYes H.here hx rfl (pc0 := 6) (pc' := 28) rfl (hb hby d_jdk_52_48_6) rfl (flt hlt).2.1 (by decide) (by decide)) ?_
      show Go p e below _ T (mkF m 28 #[.val (.ref b1), .val (.int q1), .val (.int (0 : Int32)), .val (.int (Int32.ofNat nN)), .val (.int (Int32.ofNat i1))] [])
      refine Go.of (fun _ => XS.iconst H.here hx rfl (hb hby d_jdk_52_48_28)) ?_
      show Go p e below _ T (mkF m 29 #[.val (.ref b1), .val (.int q1), .val (.int (0 : Int32)), .val (.int (Int32.ofNat nN)), .val (.int (Int32.ofNat i1))] [(.int (-1 : Int32))])
      exact own_retI H hx hlk hret (hb hby d_jdk_52_48_29) all0 ⟨_, rfl, he, own_ixF hl (fun j hj => hall j (by omega))⟩ (by decide) (by decide)
    | succ k1 ih =>
      intro i1 T h hk1 H K1 VB he hall
      have hlt : (Int32.ofNat i1) < (Int32.ofNat nN) := by rw [own_onlt (by omega) (by omega)]; omega
      show Go p e below _ T (mkF m 3 #[.val (.ref b1), .val (.int q1), .val (.int (0 : Int32)), .val (.int (Int32.ofNat nN)), .val (.int (Int32.ofNat i1))] [])
      refine Go.of (fun _ => XS.iload H.here hx rfl (hb hby d_jdk_52_48_3) rfl) ?_
      show Go p e below _ T (mkF m 5 #[.val (.ref b1), .val (.int q1), .val (.int (0 : Int32)), .val (.int (Int32.ofNat nN)), .val (.int (Int32.ofNat i1))] [(.int (Int32.ofNat i1))])
      refine Go.of (fun _ => XS.iloadN H.here hx rfl (hb hby d_jdk_52_48_5) rfl) ?_
      show Go p e below _ T (mkF m 6 #[.val (.ref b1), .val (.int q1), .val (.int (0 : Int32)), .val (.int (Int32.ofNat nN)), .val (.int (Int32.ofNat i1))] [(.int (Int32.ofNat nN)), (.int (Int32.ofNat i1))])
      refine Go.of (fun _ => XS.icmpNo H.here hx rfl (hb hby d_jdk_52_48_6) rfl (tlt hlt).2.1) ?_
      show Go p e below _ T (mkF m 9 #[.val (.ref b1), .val (.int q1), .val (.int (0 : Int32)), .val (.int (Int32.ofNat nN)), .val (.int (Int32.ofNat i1))] [])
      refine Go.of (fun _ => XS.aloadN H.here hx rfl (hb hby d_jdk_52_48_9) rfl rfl) ?_
      show Go p e below _ T (mkF m 10 #[.val (.ref b1), .val (.int q1), .val (.int (0 : Int32)), .val (.int (Int32.ofNat nN)), .val (.int (Int32.ofNat i1))] [(.ref b1)])
      refine Go.of (fun _ => XS.iload H.here hx rfl (hb hby d_jdk_52_48_10) rfl) ?_
      show Go p e below _ T (mkF m 12 #[.val (.ref b1), .val (.int q1), .val (.int (0 : Int32)), .val (.int (Int32.ofNat nN)), .val (.int (Int32.ofNat i1))] [(.int (Int32.ofNat i1)), (.ref b1)])
      refine own_staticW H hx (y := (⟨"java/lang/StringUTF16", "getChar", "([BI)C"⟩ : MethodName)) hown (ow hw 111 rfl) (ow hw 112 rfl) (ow hw 38 rfl) (ow hw 113 rfl) (by decide) (W := 0) (rm_get l Z a0 hw hE b1 kb nN _ i1 (cs.getD i1 0) h H.old VB hN4 (by omega) (StrChars.Road.wide_lo _ _ _ (by omega)) (StrChars.Road.wide_hi _ _ _ (by omega)) (hp _ (own_getm (by omega))) SA SHB SLB) (fun _ hq => nomatch hq) (by decide) (by decide) rfl (by rw [hml]; rfl) (argsL := [(.ref b1), (.int (Int32.ofNat i1))]) (rest := []) rfl (lenOf pd_5 rfl) rfl (by show 2 * 0 + _ ≤ _; exact Nat.le_of_eq rfl) (hb hby d_jdk_52_48_12) (by decide) (by decide) fun T2 h4 v6 H3 hs7 q5 => ?_
      obtain ⟨ve9, e8⟩ := q5
      subst e8
      subst ve9
      show Go p e below _ T2 (mkF m 15 #[.val (.ref b1), .val (.int q1), .val (.int (0 : Int32)), .val (.int (Int32.ofNat nN)), .val (.int (Int32.ofNat i1))] [(.int (cs.getD i1 0))])
      refine Go.of (fun _ => XS.iloadN H3.here hx rfl (hb hby d_jdk_52_48_15) rfl) ?_
      show Go p e below _ T2 (mkF m 16 #[.val (.ref b1), .val (.int q1), .val (.int (0 : Int32)), .val (.int (Int32.ofNat nN)), .val (.int (Int32.ofNat i1))] [(.int q1), (.int (cs.getD i1 0))])
      by_cases hbr10 : (cs.getD i1 0) = q1
      · skip
        refine Go.of (fun _ => XS.icmpNo H3.here hx rfl (hb hby d_jdk_52_48_16) rfl (teq hbr10).2) ?_
        show Go p e below _ T2 (mkF m 19 #[.val (.ref b1), .val (.int q1), .val (.int (0 : Int32)), .val (.int (Int32.ofNat nN)), .val (.int (Int32.ofNat i1))] [])
        refine Go.of (fun _ => XS.iload H3.here hx rfl (hb hby d_jdk_52_48_19) rfl) ?_
        show Go p e below _ T2 (mkF m 21 #[.val (.ref b1), .val (.int q1), .val (.int (0 : Int32)), .val (.int (Int32.ofNat nN)), .val (.int (Int32.ofNat i1))] [(.int (Int32.ofNat i1))])
        exact own_retI H3 hx hlk hret (hb hby d_jdk_52_48_21) all0 ⟨_, rfl, he, own_ixT (by omega) (by omega) hbr10⟩ (by decide) (by decide)
      · skip
        refine Go.of (fun _ => XS.icmpYes H3.here hx rfl (pc0 := 16) (pc' := 22) rfl (hb hby d_jdk_52_48_16) rfl (feq hbr10).2 (by decide) (by decide)) ?_
        show Go p e below _ T2 (mkF m 22 #[.val (.ref b1), .val (.int q1), .val (.int (0 : Int32)), .val (.int (Int32.ofNat nN)), .val (.int (Int32.ofNat i1))] [])
        refine Go.of (fun _ => XS.iinc H3.here hx rfl (hb hby d_jdk_52_48_22) rfl (l' := #[.val (.ref b1), .val (.int q1), .val (.int (0 : Int32)), .val (.int (Int32.ofNat nN)), .val (.int ((Int32.ofNat i1) + (1 : Int32)))]) rfl) ?_
        show Go p e below _ T2 (mkF m 25 #[.val (.ref b1), .val (.int q1), .val (.int (0 : Int32)), .val (.int (Int32.ofNat nN)), .val (.int ((Int32.ofNat i1) + (1 : Int32)))] [])
        refine Go.of (fun _ => XS.goto H3.here hx rfl (pc0 := 25) (pc' := 3) rfl (hb hby d_jdk_52_48_25) (by decide) (by decide)) ?_
        show Go p e below _ T2 (mkF m 3 #[.val (.ref b1), .val (.int q1), .val (.int (0 : Int32)), .val (.int (Int32.ofNat nN)), .val (.int ((Int32.ofNat i1) + (1 : Int32)))] [])
        rw [show (Int32.ofNat i1) + (1 : Int32) = Int32.ofNat (i1 + 1) from own_onadd i1 1]
        exact ih (i1 + 1) T2 h (by omega) H3 K1 VB he (fun j hj => if q : j = i1 then q ▸ hbr10 else hall j (by omega))
  show Go p e below _ s₁ (mkF m 0 #[.val (.ref b1), .val (.int q1), .val (.int (0 : Int32)), .val (.int (Int32.ofNat nN)), .unset] [])
  refine Go.of (fun _ => XS.iloadN H0.here hx rfl (hb hby d_jdk_52_48_0) rfl) ?_
  show Go p e below _ s₁ (mkF m 1 #[.val (.ref b1), .val (.int q1), .val (.int (0 : Int32)), .val (.int (Int32.ofNat nN)), .unset] [(.int (0 : Int32))])
  refine Go.of (fun _ => XS.istore H0.here hx rfl (hb hby d_jdk_52_48_1) rfl (l' := #[.val (.ref b1), .val (.int q1), .val (.int (0 : Int32)), .val (.int (Int32.ofNat nN)), .val (.int (0 : Int32))]) rfl) ?_
  show Go p e below _ s₁ (mkF m 3 #[.val (.ref b1), .val (.int q1), .val (.int (0 : Int32)), .val (.int (Int32.ofNat nN)), .val (.int (0 : Int32))] [])
  exact LX nN 0 s₁ h0 (Nat.zero_add _) H0 K1 V1 rfl (fun j hj => absurd hj (Nat.not_lt_zero j))
set_option maxRecDepth 65536 in
set_option maxHeartbeats 40000000 in
theorem rm_lix (l : Launch) (Z : State) (a0 : Array Value) (hw : ∀ d ∈ tables_1, d.before a0 Z = true) (hE : EW Z a0 ELx) (b1 : Addr) (kb : ClassId) (nN : Nat) (cs : List Int32) (q1 : Int32) (h0 : Heap) (O0 : Ext Z.heap h0) (V1 : Arv Z h0 b1 kb .byte (Int32.ofNat nN) (cs.map fun c => Value.int (StrChars.lo8 c)) (.int 0)) (hl : cs.length = nN) (hN4 : nN ≤ 4) (hp : ∀ c ∈ cs, ¬ c < 0 ∧ ¬ (65535 : Int32) < c) (hlat : ∀ c ∈ cs, ¬ (255 : Int32) < c) (hq1 : ¬ q1 < (0 : Int32) ∧ ¬ (255 : Int32) < q1) (h0n : 0 < nN) :
    Ct l Z ELx a0 true (⟨"java/lang/StringLatin1", "indexOf", "([BIII)I"⟩ : MethodName) jdk_43_method_22_code 4 (some .int) [] ({ frames := 1, cells := 0, slots := 0, locals := 20 } : Room) #[(.ref b1), (.int q1), (.int (0 : Int32)), (.int (Int32.ofNat nN))] h0 [] (fun _ => []) (fun v h => ∃ r : Int32, v = some (.int r) ∧ h0 = h ∧ (r < 0 ↔ ¬ q1 ∈ cs)) := by
  refine own_enter (plainFor_of_name pn_3) hE O0 ?_
  intro p e s m below meth c s₁ hx hby hml hown hnm hret hlk H0
  refine Go.eq (ef_rm_lix m b1 q1 (0 : Int32) (Int32.ofNat nN)) ?_
  show Go p e below _ s₁ (mkF m 0 #[.val (.ref b1), .val (.int q1), .val (.int (0 : Int32)), .val (.int (Int32.ofNat nN))] [])
  refine Go.of (fun _ => XS.iloadN H0.here hx rfl (hb hby d_jdk_43_22_0) rfl) ?_
  show Go p e below _ s₁ (mkF m 1 #[.val (.ref b1), .val (.int q1), .val (.int (0 : Int32)), .val (.int (Int32.ofNat nN))] [(.int q1)])
  refine own_staticW H0 hx (y := (⟨"java/lang/StringLatin1", "canEncode", "(I)Z"⟩ : MethodName)) hown (ow hw 81 rfl) (ow hw 82 rfl) (ow hw 79 rfl) (ow hw 83 rfl) (by decide) (W := 0) (rm_lce l Z a0 hw hE q1 h0 H0.old hq1) (fun _ hq => nomatch hq) (by decide) (by decide) rfl (by rw [hml]; rfl) (argsL := [(.int q1)]) (rest := []) rfl (lenOf pd_8 rfl) rfl (by show 2 * 0 + _ ≤ _; exact Nat.le_of_eq rfl) (hb hby d_jdk_43_22_1) (by decide) (by decide) fun T1 h3 v5 H2 hs6 q4 => ?_
  obtain ⟨ve8, e7⟩ := q4
  subst e7
  subst ve8
  show Go p e below _ T1 (mkF m 4 #[.val (.ref b1), .val (.int q1), .val (.int (0 : Int32)), .val (.int (Int32.ofNat nN))] [(.int (1 : Int32))])
  refine Go.of (fun _ => XS.ifYes H2.here hx rfl (pc0 := 4) (pc' := 9) rfl (hb hby d_jdk_43_22_4) rfl ((if0 _ _).trans (feq (by decide : ¬ ((1 : Int32) = (0 : Int32)))).2) (by decide) (by decide)) ?_
  show Go p e below _ T1 (mkF m 9 #[.val (.ref b1), .val (.int q1), .val (.int (0 : Int32)), .val (.int (Int32.ofNat nN))] [])
  refine Go.of (fun _ => XS.iloadN H2.here hx rfl (hb hby d_jdk_43_22_9) rfl) ?_
  show Go p e below _ T1 (mkF m 10 #[.val (.ref b1), .val (.int q1), .val (.int (0 : Int32)), .val (.int (Int32.ofNat nN))] [(.int (0 : Int32))])
  refine Go.of (fun _ => XS.iconst H2.here hx rfl (hb hby d_jdk_43_22_10)) ?_
  show Go p e below _ T1 (mkF m 11 #[.val (.ref b1), .val (.int q1), .val (.int (0 : Int32)), .val (.int (Int32.ofNat nN))] [(.int (0 : Int32)), (.int (0 : Int32))])
  refine own_staticW H2 hx (y := (⟨"java/lang/Math", "max", "(II)I"⟩ : MethodName)) hown (ow hw 84 rfl) (ow hw 85 rfl) (ow hw 86 rfl) (ow hw 87 rfl) (by decide) (W := 0) (rm_max l Z a0 hw hE (0 : Int32) (0 : Int32) h0 H2.old) (fun _ hq => nomatch hq) (by decide) (by decide) rfl (by rw [hml]; rfl) (argsL := [(.int (0 : Int32)), (.int (0 : Int32))]) (rest := []) rfl (lenOf pd_9 rfl) rfl (by show 2 * 0 + _ ≤ _; exact Nat.le_of_eq rfl) (hb hby d_jdk_43_22_11) (by decide) (by decide) fun T9 h11 v13 H10 hs14 q12 => ?_
  obtain ⟨ve16, e15⟩ := q12
  subst e15
  subst ve16
  rw [if_neg (own_irr _)]
  show Go p e below _ T9 (mkF m 14 #[.val (.ref b1), .val (.int q1), .val (.int (0 : Int32)), .val (.int (Int32.ofNat nN))] [(.int (0 : Int32))])
  refine Go.of (fun _ => XS.istoreN H10.here hx rfl (hb hby d_jdk_43_22_14) rfl (l' := #[.val (.ref b1), .val (.int q1), .val (.int (0 : Int32)), .val (.int (Int32.ofNat nN))]) rfl) ?_
  show Go p e below _ T9 (mkF m 15 #[.val (.ref b1), .val (.int q1), .val (.int (0 : Int32)), .val (.int (Int32.ofNat nN))] [])
  refine Go.of (fun _ => XS.iloadN H10.here hx rfl (hb hby d_jdk_43_22_15) rfl) ?_
  show Go p e below _ T9 (mkF m 16 #[.val (.ref b1), .val (.int q1), .val (.int (0 : Int32)), .val (.int (Int32.ofNat nN))] [(.int (Int32.ofNat nN))])
  refine Go.of (fun _ => XS.aloadN H10.here hx rfl (hb hby d_jdk_43_22_16) rfl rfl) ?_
  show Go p e below _ T9 (mkF m 17 #[.val (.ref b1), .val (.int q1), .val (.int (0 : Int32)), .val (.int (Int32.ofNat nN))] [(.ref b1), (.int (Int32.ofNat nN))])
  refine own_len H10 hx V1 rfl rfl (hb hby d_jdk_43_22_17) ?_
  show Go p e below _ T9 (mkF m 18 #[.val (.ref b1), .val (.int q1), .val (.int (0 : Int32)), .val (.int (Int32.ofNat nN))] [(.int (Int32.ofNat nN)), (.int (Int32.ofNat nN))])
  refine own_staticW H10 hx (y := (⟨"java/lang/Math", "min", "(II)I"⟩ : MethodName)) hown (ow hw 88 rfl) (ow hw 89 rfl) (ow hw 86 rfl) (ow hw 90 rfl) (by decide) (W := 0) (rm_min l Z a0 hw hE (Int32.ofNat nN) (Int32.ofNat nN) h0 H10.old) (fun _ hq => nomatch hq) (by decide) (by decide) rfl (by rw [hml]; rfl) (argsL := [(.int (Int32.ofNat nN)), (.int (Int32.ofNat nN))]) (rest := []) rfl (lenOf pd_9 rfl) rfl (by show 2 * 0 + _ ≤ _; exact Nat.le_of_eq rfl) (hb hby d_jdk_43_22_18) (by decide) (by decide) fun T17 h19 v21 H18 hs22 q20 => ?_
  obtain ⟨ve24, e23⟩ := q20
  subst e23
  subst ve24
  rw [if_neg (own_irr _)]
  show Go p e below _ T17 (mkF m 21 #[.val (.ref b1), .val (.int q1), .val (.int (0 : Int32)), .val (.int (Int32.ofNat nN))] [(.int (Int32.ofNat nN))])
  refine Go.of (fun _ => XS.istoreN H18.here hx rfl (hb hby d_jdk_43_22_21) rfl (l' := #[.val (.ref b1), .val (.int q1), .val (.int (0 : Int32)), .val (.int (Int32.ofNat nN))]) rfl) ?_
  show Go p e below _ T17 (mkF m 22 #[.val (.ref b1), .val (.int q1), .val (.int (0 : Int32)), .val (.int (Int32.ofNat nN))] [])
  refine Go.of (fun _ => XS.iloadN H18.here hx rfl (hb hby d_jdk_43_22_22) rfl) ?_
  show Go p e below _ T17 (mkF m 23 #[.val (.ref b1), .val (.int q1), .val (.int (0 : Int32)), .val (.int (Int32.ofNat nN))] [(.int (0 : Int32))])
  refine Go.of (fun _ => XS.iloadN H18.here hx rfl (hb hby d_jdk_43_22_23) rfl) ?_
  show Go p e below _ T17 (mkF m 24 #[.val (.ref b1), .val (.int q1), .val (.int (0 : Int32)), .val (.int (Int32.ofNat nN))] [(.int (Int32.ofNat nN)), (.int (0 : Int32))])
  refine Go.of (fun _ => XS.icmpYes H18.here hx rfl (pc0 := 24) (pc' := 29) rfl (hb hby d_jdk_43_22_24) rfl (tlt (show (0 : Int32) < Int32.ofNat nN from (own_onlt (a := 0) (by decide) (by omega)).mpr h0n)).1 (by decide) (by decide)) ?_
  show Go p e below _ T17 (mkF m 29 #[.val (.ref b1), .val (.int q1), .val (.int (0 : Int32)), .val (.int (Int32.ofNat nN))] [])
  refine Go.of (fun _ => XS.aloadN H18.here hx rfl (hb hby d_jdk_43_22_29) rfl rfl) ?_
  show Go p e below _ T17 (mkF m 30 #[.val (.ref b1), .val (.int q1), .val (.int (0 : Int32)), .val (.int (Int32.ofNat nN))] [(.ref b1)])
  refine Go.of (fun _ => XS.iloadN H18.here hx rfl (hb hby d_jdk_43_22_30) rfl) ?_
  show Go p e below _ T17 (mkF m 31 #[.val (.ref b1), .val (.int q1), .val (.int (0 : Int32)), .val (.int (Int32.ofNat nN))] [(.int q1), (.ref b1)])
  refine Go.of (fun _ => XS.iloadN H18.here hx rfl (hb hby d_jdk_43_22_31) rfl) ?_
  show Go p e below _ T17 (mkF m 32 #[.val (.ref b1), .val (.int q1), .val (.int (0 : Int32)), .val (.int (Int32.ofNat nN))] [(.int (0 : Int32)), (.int q1), (.ref b1)])
  refine Go.of (fun _ => XS.iloadN H18.here hx rfl (hb hby d_jdk_43_22_32) rfl) ?_
  show Go p e below _ T17 (mkF m 33 #[.val (.ref b1), .val (.int q1), .val (.int (0 : Int32)), .val (.int (Int32.ofNat nN))] [(.int (Int32.ofNat nN)), (.int (0 : Int32)), (.int q1), (.ref b1)])
  refine own_staticW H18 hx (y := (⟨"java/lang/StringLatin1", "indexOfChar", "([BIII)I"⟩ : MethodName)) hown (ow hw 91 rfl) (ow hw 92 rfl) (ow hw 79 rfl) (ow hw 93 rfl) (by decide) (W := 0) (rm_lic l Z a0 hw hE b1 kb nN cs q1 h0 H18.old V1 hl hN4 hp hlat hq1) (fun _ hq => nomatch hq) (by decide) (by decide) rfl (by rw [hml]; rfl) (argsL := [(.ref b1), (.int q1), (.int (0 : Int32)), (.int (Int32.ofNat nN))]) (rest := []) rfl (lenOf pd_10 rfl) rfl (by show 2 * 0 + _ ≤ _; exact Nat.le_of_eq rfl) (hb hby d_jdk_43_22_33) (by decide) (by decide) fun T25 h27 v29 H26 hs30 q28 => ?_
  obtain ⟨r31, rfl, e32, hr33⟩ := q28
  subst e32
  show Go p e below _ T25 (mkF m 36 #[.val (.ref b1), .val (.int q1), .val (.int (0 : Int32)), .val (.int (Int32.ofNat nN))] [(.int r31)])
  exact own_retI H26 hx hlk hret (hb hby d_jdk_43_22_36) all0 ⟨_, rfl, rfl, hr33⟩ (by decide) (by decide)
set_option maxRecDepth 65536 in
set_option maxHeartbeats 40000000 in
theorem rm_cft (l : Launch) (Z : State) (a0 : Array Value) (hw : ∀ d ∈ tables_1, d.before a0 Z = true) (hE : EW Z a0 ELx) (p1 : Int32) (p2 : Int32) (p3 : Int32) (fm : Value) (h0 : Heap) (O0 : Ext Z.heap h0) (hfm : fm.isRef = true) (hb1 : ¬ p1 < (0 : Int32)) (hb2 : ¬ p2 < p1) (hb3 : ¬ p3 < p2) :
    Ct l Z ELx a0 true (⟨"jdk/internal/util/Preconditions", "checkFromToIndex", "(IIILjava/util/function/BiFunction;)I"⟩ : MethodName) jdk_41_method_12_code 4 (some .int) [] ({ frames := 0, cells := 0, slots := 0, locals := 0 } : Room) #[(.int p1), (.int p2), (.int p3), fm] h0 [] (fun _ => []) (fun v h => v = some (.int p1) ∧ h0 = h) := by
  refine own_enter (plainFor_of_name pn_4) hE O0 ?_
  intro p e s m below meth c s₁ hx hby hml hown hnm hret hlk H0
  refine Go.eq (ef_rm_cft m p1 p2 p3 fm hfm) ?_
  show Go p e below _ s₁ (mkF m 0 #[.val (.int p1), .val (.int p2), .val (.int p3), .val fm] [])
  refine Go.of (fun _ => XS.iloadN H0.here hx rfl (hb hby d_jdk_41_12_0) rfl) ?_
  show Go p e below _ s₁ (mkF m 1 #[.val (.int p1), .val (.int p2), .val (.int p3), .val fm] [(.int p1)])
  refine Go.of (fun _ => XS.ifNo H0.here hx rfl (hb hby d_jdk_41_12_1) rfl ((if0 _ _).trans (flt hb1).1)) ?_
  show Go p e below _ s₁ (mkF m 4 #[.val (.int p1), .val (.int p2), .val (.int p3), .val fm] [])
  refine Go.of (fun _ => XS.iloadN H0.here hx rfl (hb hby d_jdk_41_12_4) rfl) ?_
  show Go p e below _ s₁ (mkF m 5 #[.val (.int p1), .val (.int p2), .val (.int p3), .val fm] [(.int p1)])
  refine Go.of (fun _ => XS.iloadN H0.here hx rfl (hb hby d_jdk_41_12_5) rfl) ?_
  show Go p e below _ s₁ (mkF m 6 #[.val (.int p1), .val (.int p2), .val (.int p3), .val fm] [(.int p2), (.int p1)])
  refine Go.of (fun _ => XS.icmpNo H0.here hx rfl (hb hby d_jdk_41_12_6) rfl (flt hb2).2.2.1) ?_
  show Go p e below _ s₁ (mkF m 9 #[.val (.int p1), .val (.int p2), .val (.int p3), .val fm] [])
  refine Go.of (fun _ => XS.iloadN H0.here hx rfl (hb hby d_jdk_41_12_9) rfl) ?_
  show Go p e below _ s₁ (mkF m 10 #[.val (.int p1), .val (.int p2), .val (.int p3), .val fm] [(.int p2)])
  refine Go.of (fun _ => XS.iloadN H0.here hx rfl (hb hby d_jdk_41_12_10) rfl) ?_
  show Go p e below _ s₁ (mkF m 11 #[.val (.int p1), .val (.int p2), .val (.int p3), .val fm] [(.int p3), (.int p2)])
  refine Go.of (fun _ => XS.icmpYes H0.here hx rfl (pc0 := 11) (pc' := 22) rfl (hb hby d_jdk_41_12_11) rfl (flt hb3).2.2.2 (by decide) (by decide)) ?_
  show Go p e below _ s₁ (mkF m 22 #[.val (.int p1), .val (.int p2), .val (.int p3), .val fm] [])
  refine Go.of (fun _ => XS.iloadN H0.here hx rfl (hb hby d_jdk_41_12_22) rfl) ?_
  show Go p e below _ s₁ (mkF m 23 #[.val (.int p1), .val (.int p2), .val (.int p3), .val fm] [(.int p1)])
  exact own_retI H0 hx hlk hret (hb hby d_jdk_41_12_23) all0 ⟨rfl, rfl⟩ (by decide) (by decide)
set_option maxRecDepth 65536 in
set_option maxHeartbeats 40000000 in
theorem rm_scb (l : Launch) (Z : State) (a0 : Array Value) (hw : ∀ d ∈ tables_1, d.before a0 Z = true) (hE : EW Z a0 ELx) (p1 : Int32) (p2 : Int32) (p3 : Int32) (fm : Value) (h0 : Heap) (O0 : Ext Z.heap h0) (SF : Sta Z Z.heap "jdk/internal/util/Preconditions" "SIOOBE_FORMATTER" "Ljava/util/function/BiFunction;" fm) (hfm : fm.isRef = true) (hb1 : ¬ p1 < (0 : Int32)) (hb2 : ¬ p2 < p1) (hb3 : ¬ p3 < p2) :
    Ct l Z ELx a0 true (⟨"java/lang/String", "checkBoundsBeginEnd", "(III)V"⟩ : MethodName) jdk_42_method_158_code 3 none [] ({ frames := 1, cells := 0, slots := 0, locals := 15 } : Room) #[(.int p1), (.int p2), (.int p3)] h0 [] (fun _ => []) (fun v h => v = none ∧ h0 = h) := by
  refine own_enter (plainFor_of_name pn_1) hE O0 ?_
  intro p e s m below meth c s₁ hx hby hml hown hnm hret hlk H0
  refine Go.eq (ef_rm_scb m p1 p2 p3) ?_
  show Go p e below _ s₁ (mkF m 0 #[.val (.int p1), .val (.int p2), .val (.int p3)] [])
  refine Go.of (fun _ => XS.iloadN H0.here hx rfl (hb hby d_jdk_42_158_0) rfl) ?_
  show Go p e below _ s₁ (mkF m 1 #[.val (.int p1), .val (.int p2), .val (.int p3)] [(.int p1)])
  refine Go.of (fun _ => XS.iloadN H0.here hx rfl (hb hby d_jdk_42_158_1) rfl) ?_
  show Go p e below _ s₁ (mkF m 2 #[.val (.int p1), .val (.int p2), .val (.int p3)] [(.int p2), (.int p1)])
  refine Go.of (fun _ => XS.iloadN H0.here hx rfl (hb hby d_jdk_42_158_2) rfl) ?_
  show Go p e below _ s₁ (mkF m 3 #[.val (.int p1), .val (.int p2), .val (.int p3)] [(.int p3), (.int p2), (.int p1)])
  refine own_getS H0 hx hown (host := "") (Or.inl (ow hw 132 rfl)) Via.refl SF rfl (hb hby d_jdk_42_158_3) fun T1 H2 => ?_
  show Go p e below _ T1 (mkF m 6 #[.val (.int p1), .val (.int p2), .val (.int p3)] [fm, (.int p3), (.int p2), (.int p1)])
  refine own_staticW H2 hx (y := (⟨"jdk/internal/util/Preconditions", "checkFromToIndex", "(IIILjava/util/function/BiFunction;)I"⟩ : MethodName)) hown (ow hw 134 rfl) (ow hw 135 rfl) (ow hw 133 rfl) (ow hw 136 rfl) (by decide) (W := 0) (rm_cft l Z a0 hw hE p1 p2 p3 fm h0 H2.old hfm hb1 hb2 hb3) (fun _ hq => nomatch hq) (by decide) (by decide) rfl (by rw [hml]; rfl) (argsL := [(.int p1), (.int p2), (.int p3), fm]) (rest := []) rfl (lenOf pd_11 rfl) rfl (by show 2 * 0 + _ ≤ _; exact Nat.le_of_eq rfl) (hb hby d_jdk_42_158_6) (by decide) (by decide) fun T3 h5 v7 H4 hs8 q6 => ?_
  obtain ⟨ve10, e9⟩ := q6
  subst e9
  subst ve10
  show Go p e below _ T3 (mkF m 9 #[.val (.int p1), .val (.int p2), .val (.int p3)] [(.int p1)])
  refine Go.of (fun _ => XS.pop H4.here hx rfl (hb hby d_jdk_42_158_9) rfl rfl) ?_
  show Go p e below _ T3 (mkF m 10 #[.val (.int p1), .val (.int p2), .val (.int p3)] [])
  exact own_ret H4 hx hlk hret (hb hby d_jdk_42_158_10) all0 ⟨rfl, rfl⟩ (by decide) (by decide)
set_option maxRecDepth 65536 in
set_option maxHeartbeats 40000000 in
theorem rm_ucb (l : Launch) (Z : State) (a0 : Array Value) (hw : ∀ d ∈ tables_1, d.before a0 Z = true) (hE : EW Z a0 ELx) (b1 : Addr) (kb : ClassId) (nN : Nat) (cs : List Int32) (fm : Value) (h0 : Heap) (O0 : Ext Z.heap h0) (V1 : Arv Z h0 b1 kb .byte (Int32.ofNat (2 * nN)) (StrChars.Road.wideBytes cs) (.int 0)) (hN4 : nN ≤ 4) (SF : Sta Z Z.heap "jdk/internal/util/Preconditions" "SIOOBE_FORMATTER" "Ljava/util/function/BiFunction;" fm) (hfm : fm.isRef = true) :
    Ct l Z ELx a0 true (⟨"java/lang/StringUTF16", "checkBoundsBeginEnd", "(II[B)V"⟩ : MethodName) jdk_52_method_93_code 3 none [] ({ frames := 2, cells := 0, slots := 0, locals := 30 } : Room) #[(.int (0 : Int32)), (.int (Int32.ofNat nN)), (.ref b1)] h0 [] (fun _ => []) (fun v h => v = none ∧ h0 = h) := by
  refine own_enter (plainFor_of_name pn_0) hE O0 ?_
  intro p e s m below meth c s₁ hx hby hml hown hnm hret hlk H0
  refine Go.eq (ef_rm_ucb m (0 : Int32) (Int32.ofNat nN) b1) ?_
  show Go p e below _ s₁ (mkF m 0 #[.val (.int (0 : Int32)), .val (.int (Int32.ofNat nN)), .val (.ref b1)] [])
  refine Go.of (fun _ => XS.iloadN H0.here hx rfl (hb hby d_jdk_52_93_0) rfl) ?_
  show Go p e below _ s₁ (mkF m 1 #[.val (.int (0 : Int32)), .val (.int (Int32.ofNat nN)), .val (.ref b1)] [(.int (0 : Int32))])
  refine Go.of (fun _ => XS.iloadN H0.here hx rfl (hb hby d_jdk_52_93_1) rfl) ?_
  show Go p e below _ s₁ (mkF m 2 #[.val (.int (0 : Int32)), .val (.int (Int32.ofNat nN)), .val (.ref b1)] [(.int (Int32.ofNat nN)), (.int (0 : Int32))])
  refine Go.of (fun _ => XS.aloadN H0.here hx rfl (hb hby d_jdk_52_93_2) rfl rfl) ?_
  show Go p e below _ s₁ (mkF m 3 #[.val (.int (0 : Int32)), .val (.int (Int32.ofNat nN)), .val (.ref b1)] [(.ref b1), (.int (Int32.ofNat nN)), (.int (0 : Int32))])
  refine own_staticW H0 hx (y := (⟨"java/lang/StringUTF16", "length", "([B)I"⟩ : MethodName)) hown (ow hw 126 rfl) (ow hw 127 rfl) (ow hw 38 rfl) (ow hw 128 rfl) (by decide) (W := 2) (rm_ul l Z a0 hw hE b1 kb nN _ h0 H0.old V1 hN4) (fun _ hq => nomatch hq) (by decide) (by decide) rfl (by rw [hml]; rfl) (argsL := [(.ref b1)]) (rest := [(.int (Int32.ofNat nN)), (.int (0 : Int32))]) rfl (lenOf pd_12 rfl) rfl (by show 2 * 0 + _ ≤ _; exact Nat.le_of_eq rfl) (hb hby d_jdk_52_93_3) (by decide) (by decide) fun T1 h3 v5 H2 hs6 q4 => ?_
  obtain ⟨ve8, e7⟩ := q4
  subst e7
  subst ve8
  show Go p e below _ T1 (mkF m 6 #[.val (.int (0 : Int32)), .val (.int (Int32.ofNat nN)), .val (.ref b1)] [(.int (Int32.ofNat nN)), (.int (Int32.ofNat nN)), (.int (0 : Int32))])
  refine own_staticW H2 hx (y := (⟨"java/lang/String", "checkBoundsBeginEnd", "(III)V"⟩ : MethodName)) hown (ow hw 129 rfl) (ow hw 130 rfl) (ow hw 7 rfl) (ow hw 131 rfl) (by decide) (W := 0) (rm_scb l Z a0 hw hE (0 : Int32) (Int32.ofNat nN) (Int32.ofNat nN) fm h0 H2.old SF hfm (by decide) (own_on0 (by omega)) (own_irr _)) (fun _ hq => nomatch hq) (by decide) (by decide) rfl (by rw [hml]; rfl) (argsL := [(.int (0 : Int32)), (.int (Int32.ofNat nN)), (.int (Int32.ofNat nN))]) (rest := []) rfl (lenOf pd_13 rfl) rfl (by show 2 * 0 + _ ≤ _; exact Nat.le_of_eq rfl) (hb hby d_jdk_52_93_6) (by decide) (by decide) fun T9 h11 v13 H10 hs14 q12 => ?_
  obtain ⟨ve16, e15⟩ := q12
  subst e15
  subst ve16
  show Go p e below _ T9 (mkF m 9 #[.val (.int (0 : Int32)), .val (.int (Int32.ofNat nN)), .val (.ref b1)] [])
  exact own_ret H10 hx hlk hret (hb hby d_jdk_52_93_9) all0 ⟨rfl, rfl⟩ (by decide) (by decide)
set_option maxRecDepth 65536 in
set_option maxHeartbeats 40000000 in
theorem rm_uic (l : Launch) (Z : State) (a0 : Array Value) (hw : ∀ d ∈ tables_1, d.before a0 Z = true) (hE : EW Z a0 ELx) (b1 : Addr) (kb : ClassId) (nN : Nat) (cs : List Int32) (q1 : Int32) (fm : Value) (h0 : Heap) (O0 : Ext Z.heap h0) (V1 : Arv Z h0 b1 kb .byte (Int32.ofNat (2 * nN)) (StrChars.Road.wideBytes cs) (.int 0)) (hl : cs.length = nN) (hN4 : nN ≤ 4) (hp : ∀ c ∈ cs, ¬ c < 0 ∧ ¬ (65535 : Int32) < c) (SF : Sta Z Z.heap "jdk/internal/util/Preconditions" "SIOOBE_FORMATTER" "Ljava/util/function/BiFunction;" fm) (hfm : fm.isRef = true) (SA : Sta Z Z.heap "java/lang/StringUTF16" "$assertionsDisabled" "Z" (.int 1)) (SHB : Sta Z Z.heap "java/lang/StringUTF16" "HI_BYTE_SHIFT" "I" (.int 0)) (SLB : Sta Z Z.heap "java/lang/StringUTF16" "LO_BYTE_SHIFT" "I" (.int 8)) :
    Ct l Z ELx a0 true (⟨"java/lang/StringUTF16", "indexOfChar", "([BIII)I"⟩ : MethodName) jdk_52_method_47_code 4 (some .int) [] ({ frames := 3, cells := 0, slots := 0, locals := 48 } : Room) #[(.ref b1), (.int q1), (.int (0 : Int32)), (.int (Int32.ofNat nN))] h0 [] (fun _ => []) (fun v h => ∃ r : Int32, v = some (.int r) ∧ h0 = h ∧ (r < 0 ↔ ¬ q1 ∈ cs)) := by
  refine own_enter (plainFor_of_name pn_0) hE O0 ?_
  intro p e s m below meth c s₁ hx hby hml hown hnm hret hlk H0
  refine Go.eq (ef_rm_uic m b1 q1 (0 : Int32) (Int32.ofNat nN)) ?_
  show Go p e below _ s₁ (mkF m 0 #[.val (.ref b1), .val (.int q1), .val (.int (0 : Int32)), .val (.int (Int32.ofNat nN))] [])
  refine Go.of (fun _ => XS.iloadN H0.here hx rfl (hb hby d_jdk_52_47_0) rfl) ?_
  show Go p e below _ s₁ (mkF m 1 #[.val (.ref b1), .val (.int q1), .val (.int (0 : Int32)), .val (.int (Int32.ofNat nN))] [(.int (0 : Int32))])
  refine Go.of (fun _ => XS.iloadN H0.here hx rfl (hb hby d_jdk_52_47_1) rfl) ?_
  show Go p e below _ s₁ (mkF m 2 #[.val (.ref b1), .val (.int q1), .val (.int (0 : Int32)), .val (.int (Int32.ofNat nN))] [(.int (Int32.ofNat nN)), (.int (0 : Int32))])
  refine Go.of (fun _ => XS.aloadN H0.here hx rfl (hb hby d_jdk_52_47_2) rfl rfl) ?_
  show Go p e below _ s₁ (mkF m 3 #[.val (.ref b1), .val (.int q1), .val (.int (0 : Int32)), .val (.int (Int32.ofNat nN))] [(.ref b1), (.int (Int32.ofNat nN)), (.int (0 : Int32))])
  refine own_staticW H0 hx (y := (⟨"java/lang/StringUTF16", "checkBoundsBeginEnd", "(II[B)V"⟩ : MethodName)) hown (ow hw 123 rfl) (ow hw 124 rfl) (ow hw 38 rfl) (ow hw 125 rfl) (by decide) (W := 0) (rm_ucb l Z a0 hw hE b1 kb nN cs fm h0 H0.old V1 hN4 SF hfm) (fun _ hq => nomatch hq) (by decide) (by decide) rfl (by rw [hml]; rfl) (argsL := [(.int (0 : Int32)), (.int (Int32.ofNat nN)), (.ref b1)]) (rest := []) rfl (lenOf pd_14 rfl) rfl (by show 2 * 0 + _ ≤ _; exact Nat.le_of_eq rfl) (hb hby d_jdk_52_47_3) (by decide) (by decide) fun T1 h3 v5 H2 hs6 q4 => ?_
  obtain ⟨ve8, e7⟩ := q4
  subst e7
  subst ve8
  show Go p e below _ T1 (mkF m 6 #[.val (.ref b1), .val (.int q1), .val (.int (0 : Int32)), .val (.int (Int32.ofNat nN))] [])
  refine Go.of (fun _ => XS.aloadN H2.here hx rfl (hb hby d_jdk_52_47_6) rfl rfl) ?_
  show Go p e below _ T1 (mkF m 7 #[.val (.ref b1), .val (.int q1), .val (.int (0 : Int32)), .val (.int (Int32.ofNat nN))] [(.ref b1)])
  refine Go.of (fun _ => XS.iloadN H2.here hx rfl (hb hby d_jdk_52_47_7) rfl) ?_
  show Go p e below _ T1 (mkF m 8 #[.val (.ref b1), .val (.int q1), .val (.int (0 : Int32)), .val (.int (Int32.ofNat nN))] [(.int q1), (.ref b1)])
  refine Go.of (fun _ => XS.iloadN H2.here hx rfl (hb hby d_jdk_52_47_8) rfl) ?_
  show Go p e below _ T1 (mkF m 9 #[.val (.ref b1), .val (.int q1), .val (.int (0 : Int32)), .val (.int (Int32.ofNat nN))] [(.int (0 : Int32)), (.int q1), (.ref b1)])
  refine Go.of (fun _ => XS.iloadN H2.here hx rfl (hb hby d_jdk_52_47_9) rfl) ?_
  show Go p e below _ T1 (mkF m 10 #[.val (.ref b1), .val (.int q1), .val (.int (0 : Int32)), .val (.int (Int32.ofNat nN))] [(.int (Int32.ofNat nN)), (.int (0 : Int32)), (.int q1), (.ref b1)])
  refine own_staticW H2 hx (y := (⟨"java/lang/StringUTF16", "indexOfCharUnsafe", "([BIII)I"⟩ : MethodName)) hown (ow hw 137 rfl) (ow hw 138 rfl) (ow hw 38 rfl) (ow hw 139 rfl) (by decide) (W := 0) (rm_uiu l Z a0 hw hE b1 kb nN cs q1 h0 H2.old V1 hl hN4 hp SA SHB SLB) (fun _ hq => nomatch hq) (by decide) (by decide) rfl (by rw [hml]; rfl) (argsL := [(.ref b1), (.int q1), (.int (0 : Int32)), (.int (Int32.ofNat nN))]) (rest := []) rfl (lenOf pd_10 rfl) rfl (by show 2 * 0 + _ ≤ _; exact Nat.le_of_eq rfl) (hb hby d_jdk_52_47_10) (by decide) (by decide) fun T9 h11 v13 H10 hs14 q12 => ?_
  obtain ⟨r15, rfl, e16, hr17⟩ := q12
  subst e16
  show Go p e below _ T9 (mkF m 13 #[.val (.ref b1), .val (.int q1), .val (.int (0 : Int32)), .val (.int (Int32.ofNat nN))] [(.int r15)])
  exact own_retI H10 hx hlk hret (hb hby d_jdk_52_47_13) all0 ⟨_, rfl, rfl, hr17⟩ (by decide) (by decide)
set_option maxRecDepth 65536 in
set_option maxHeartbeats 40000000 in
theorem rm_uix (l : Launch) (Z : State) (a0 : Array Value) (hw : ∀ d ∈ tables_1, d.before a0 Z = true) (hE : EW Z a0 ELx) (b1 : Addr) (kb : ClassId) (nN : Nat) (cs : List Int32) (q1 : Int32) (fm : Value) (h0 : Heap) (O0 : Ext Z.heap h0) (V1 : Arv Z h0 b1 kb .byte (Int32.ofNat (2 * nN)) (StrChars.Road.wideBytes cs) (.int 0)) (hl : cs.length = nN) (hN4 : nN ≤ 4) (hp : ∀ c ∈ cs, ¬ c < 0 ∧ ¬ (65535 : Int32) < c) (SF : Sta Z Z.heap "jdk/internal/util/Preconditions" "SIOOBE_FORMATTER" "Ljava/util/function/BiFunction;" fm) (hfm : fm.isRef = true) (SA : Sta Z Z.heap "java/lang/StringUTF16" "$assertionsDisabled" "Z" (.int 1)) (SHB : Sta Z Z.heap "java/lang/StringUTF16" "HI_BYTE_SHIFT" "I" (.int 0)) (SLB : Sta Z Z.heap "java/lang/StringUTF16" "LO_BYTE_SHIFT" "I" (.int 8)) (hq1 : ¬ q1 < (0 : Int32) ∧ ¬ (255 : Int32) < q1) (h0n : 0 < nN) :
    Ct l Z ELx a0 true (⟨"java/lang/StringUTF16", "indexOf", "([BIII)I"⟩ : MethodName) jdk_52_method_40_code 4 (some .int) [] ({ frames := 4, cells := 0, slots := 0, locals := 66 } : Room) #[(.ref b1), (.int q1), (.int (0 : Int32)), (.int (Int32.ofNat nN))] h0 [] (fun _ => []) (fun v h => ∃ r : Int32, v = some (.int r) ∧ h0 = h ∧ (r < 0 ↔ ¬ q1 ∈ cs)) := by
  refine own_enter (plainFor_of_name pn_0) hE O0 ?_
  intro p e s m below meth c s₁ hx hby hml hown hnm hret hlk H0
  refine Go.eq (ef_rm_uix m b1 q1 (0 : Int32) (Int32.ofNat nN)) ?_
  show Go p e below _ s₁ (mkF m 0 #[.val (.ref b1), .val (.int q1), .val (.int (0 : Int32)), .val (.int (Int32.ofNat nN))] [])
  refine Go.of (fun _ => XS.iloadN H0.here hx rfl (hb hby d_jdk_52_40_0) rfl) ?_
  show Go p e below _ s₁ (mkF m 1 #[.val (.ref b1), .val (.int q1), .val (.int (0 : Int32)), .val (.int (Int32.ofNat nN))] [(.int (0 : Int32))])
  refine Go.of (fun _ => XS.iconst H0.here hx rfl (hb hby d_jdk_52_40_1)) ?_
  show Go p e below _ s₁ (mkF m 2 #[.val (.ref b1), .val (.int q1), .val (.int (0 : Int32)), .val (.int (Int32.ofNat nN))] [(.int (0 : Int32)), (.int (0 : Int32))])
  refine own_staticW H0 hx (y := (⟨"java/lang/Math", "max", "(II)I"⟩ : MethodName)) hown (ow hw 117 rfl) (ow hw 85 rfl) (ow hw 86 rfl) (ow hw 87 rfl) (by decide) (W := 0) (rm_max l Z a0 hw hE (0 : Int32) (0 : Int32) h0 H0.old) (fun _ hq => nomatch hq) (by decide) (by decide) rfl (by rw [hml]; rfl) (argsL := [(.int (0 : Int32)), (.int (0 : Int32))]) (rest := []) rfl (lenOf pd_9 rfl) rfl (by show 2 * 0 + _ ≤ _; exact Nat.le_of_eq rfl) (hb hby d_jdk_52_40_2) (by decide) (by decide) fun T1 h3 v5 H2 hs6 q4 => ?_
  obtain ⟨ve8, e7⟩ := q4
  subst e7
  subst ve8
  rw [if_neg (own_irr _)]
  show Go p e below _ T1 (mkF m 5 #[.val (.ref b1), .val (.int q1), .val (.int (0 : Int32)), .val (.int (Int32.ofNat nN))] [(.int (0 : Int32))])
  refine Go.of (fun _ => XS.istoreN H2.here hx rfl (hb hby d_jdk_52_40_5) rfl (l' := #[.val (.ref b1), .val (.int q1), .val (.int (0 : Int32)), .val (.int (Int32.ofNat nN))]) rfl) ?_
  show Go p e below _ T1 (mkF m 6 #[.val (.ref b1), .val (.int q1), .val (.int (0 : Int32)), .val (.int (Int32.ofNat nN))] [])
  refine Go.of (fun _ => XS.iloadN H2.here hx rfl (hb hby d_jdk_52_40_6) rfl) ?_
  show Go p e below _ T1 (mkF m 7 #[.val (.ref b1), .val (.int q1), .val (.int (0 : Int32)), .val (.int (Int32.ofNat nN))] [(.int (Int32.ofNat nN))])
  refine Go.of (fun _ => XS.aloadN H2.here hx rfl (hb hby d_jdk_52_40_7) rfl rfl) ?_
  show Go p e below _ T1 (mkF m 8 #[.val (.ref b1), .val (.int q1), .val (.int (0 : Int32)), .val (.int (Int32.ofNat nN))] [(.ref b1), (.int (Int32.ofNat nN))])
  refine own_len H2 hx V1 rfl rfl (hb hby d_jdk_52_40_8) ?_
  show Go p e below _ T1 (mkF m 9 #[.val (.ref b1), .val (.int q1), .val (.int (0 : Int32)), .val (.int (Int32.ofNat nN))] [(.int (Int32.ofNat (2 * nN))), (.int (Int32.ofNat nN))])
  refine Go.of (fun _ => XS.iconst H2.here hx rfl (hb hby d_jdk_52_40_9)) ?_
  show Go p e below _ T1 (mkF m 10 #[.val (.ref b1), .val (.int q1), .val (.int (0 : Int32)), .val (.int (Int32.ofNat nN))] [(.int (1 : Int32)), (.int (Int32.ofNat (2 * nN))), (.int (Int32.ofNat nN))])
  refine Go.of (fun _ => XS.ishr H2.here hx rfl (hb hby d_jdk_52_40_10) rfl) ?_
  show Go p e below _ T1 (mkF m 11 #[.val (.ref b1), .val (.int q1), .val (.int (0 : Int32)), .val (.int (Int32.ofNat nN))] [(.int ((Int32.ofNat (2 * nN)) >>> ((1 : Int32) &&& 31))), (.int (Int32.ofNat nN))])
  rw [StrChars.shr1 (by omega)]
  show Go p e below _ T1 (mkF m 11 #[.val (.ref b1), .val (.int q1), .val (.int (0 : Int32)), .val (.int (Int32.ofNat nN))] [(.int (Int32.ofNat nN)), (.int (Int32.ofNat nN))])
  refine own_staticW H2 hx (y := (⟨"java/lang/Math", "min", "(II)I"⟩ : MethodName)) hown (ow hw 118 rfl) (ow hw 89 rfl) (ow hw 86 rfl) (ow hw 90 rfl) (by decide) (W := 0) (rm_min l Z a0 hw hE (Int32.ofNat nN) (Int32.ofNat nN) h0 H2.old) (fun _ hq => nomatch hq) (by decide) (by decide) rfl (by rw [hml]; rfl) (argsL := [(.int (Int32.ofNat nN)), (.int (Int32.ofNat nN))]) (rest := []) rfl (lenOf pd_9 rfl) rfl (by show 2 * 0 + _ ≤ _; exact Nat.le_of_eq rfl) (hb hby d_jdk_52_40_11) (by decide) (by decide) fun T9 h11 v13 H10 hs14 q12 => ?_
  obtain ⟨ve16, e15⟩ := q12
  subst e15
  subst ve16
  rw [if_neg (own_irr _)]
  show Go p e below _ T9 (mkF m 14 #[.val (.ref b1), .val (.int q1), .val (.int (0 : Int32)), .val (.int (Int32.ofNat nN))] [(.int (Int32.ofNat nN))])
  refine Go.of (fun _ => XS.istoreN H10.here hx rfl (hb hby d_jdk_52_40_14) rfl (l' := #[.val (.ref b1), .val (.int q1), .val (.int (0 : Int32)), .val (.int (Int32.ofNat nN))]) rfl) ?_
  show Go p e below _ T9 (mkF m 15 #[.val (.ref b1), .val (.int q1), .val (.int (0 : Int32)), .val (.int (Int32.ofNat nN))] [])
  refine Go.of (fun _ => XS.iloadN H10.here hx rfl (hb hby d_jdk_52_40_15) rfl) ?_
  show Go p e below _ T9 (mkF m 16 #[.val (.ref b1), .val (.int q1), .val (.int (0 : Int32)), .val (.int (Int32.ofNat nN))] [(.int (0 : Int32))])
  refine Go.of (fun _ => XS.iloadN H10.here hx rfl (hb hby d_jdk_52_40_16) rfl) ?_
  show Go p e below _ T9 (mkF m 17 #[.val (.ref b1), .val (.int q1), .val (.int (0 : Int32)), .val (.int (Int32.ofNat nN))] [(.int (Int32.ofNat nN)), (.int (0 : Int32))])
  refine Go.of (fun _ => XS.icmpYes H10.here hx rfl (pc0 := 17) (pc' := 22) rfl (hb hby d_jdk_52_40_17) rfl (tlt (show (0 : Int32) < Int32.ofNat nN from (own_onlt (a := 0) (by decide) (by omega)).mpr h0n)).1 (by decide) (by decide)) ?_
  show Go p e below _ T9 (mkF m 22 #[.val (.ref b1), .val (.int q1), .val (.int (0 : Int32)), .val (.int (Int32.ofNat nN))] [])
  refine Go.of (fun _ => XS.iloadN H10.here hx rfl (hb hby d_jdk_52_40_22) rfl) ?_
  show Go p e below _ T9 (mkF m 23 #[.val (.ref b1), .val (.int q1), .val (.int (0 : Int32)), .val (.int (Int32.ofNat nN))] [(.int q1)])
  refine own_ldcI H10 hx hown (ow hw 119 rfl) rfl (hb hby d_jdk_52_40_23) ?_
  show Go p e below _ T9 (mkF m 25 #[.val (.ref b1), .val (.int q1), .val (.int (0 : Int32)), .val (.int (Int32.ofNat nN))] [(.int (65536 : Int32)), (.int q1)])
  refine Go.of (fun _ => XS.icmpNo H10.here hx rfl (hb hby d_jdk_52_40_25) rfl (tlt (own_lt64 hq1.2)).2.1) ?_
  show Go p e below _ T9 (mkF m 28 #[.val (.ref b1), .val (.int q1), .val (.int (0 : Int32)), .val (.int (Int32.ofNat nN))] [])
  refine Go.of (fun _ => XS.aloadN H10.here hx rfl (hb hby d_jdk_52_40_28) rfl rfl) ?_
  show Go p e below _ T9 (mkF m 29 #[.val (.ref b1), .val (.int q1), .val (.int (0 : Int32)), .val (.int (Int32.ofNat nN))] [(.ref b1)])
  refine Go.of (fun _ => XS.iloadN H10.here hx rfl (hb hby d_jdk_52_40_29) rfl) ?_
  show Go p e below _ T9 (mkF m 30 #[.val (.ref b1), .val (.int q1), .val (.int (0 : Int32)), .val (.int (Int32.ofNat nN))] [(.int q1), (.ref b1)])
  refine Go.of (fun _ => XS.iloadN H10.here hx rfl (hb hby d_jdk_52_40_30) rfl) ?_
  show Go p e below _ T9 (mkF m 31 #[.val (.ref b1), .val (.int q1), .val (.int (0 : Int32)), .val (.int (Int32.ofNat nN))] [(.int (0 : Int32)), (.int q1), (.ref b1)])
  refine Go.of (fun _ => XS.iloadN H10.here hx rfl (hb hby d_jdk_52_40_31) rfl) ?_
  show Go p e below _ T9 (mkF m 32 #[.val (.ref b1), .val (.int q1), .val (.int (0 : Int32)), .val (.int (Int32.ofNat nN))] [(.int (Int32.ofNat nN)), (.int (0 : Int32)), (.int q1), (.ref b1)])
  refine own_staticW H10 hx (y := (⟨"java/lang/StringUTF16", "indexOfChar", "([BIII)I"⟩ : MethodName)) hown (ow hw 120 rfl) (ow hw 121 rfl) (ow hw 38 rfl) (ow hw 122 rfl) (by decide) (W := 0) (rm_uic l Z a0 hw hE b1 kb nN cs q1 fm h0 H10.old V1 hl hN4 hp SF hfm SA SHB SLB) (fun _ hq => nomatch hq) (by decide) (by decide) rfl (by rw [hml]; rfl) (argsL := [(.ref b1), (.int q1), (.int (0 : Int32)), (.int (Int32.ofNat nN))]) (rest := []) rfl (lenOf pd_10 rfl) rfl (by show 2 * 0 + _ ≤ _; exact Nat.le_of_eq rfl) (hb hby d_jdk_52_40_32) (by decide) (by decide) fun T17 h19 v21 H18 hs22 q20 => ?_
  obtain ⟨r23, rfl, e24, hr25⟩ := q20
  subst e24
  show Go p e below _ T17 (mkF m 35 #[.val (.ref b1), .val (.int q1), .val (.int (0 : Int32)), .val (.int (Int32.ofNat nN))] [(.int r23)])
  exact own_retI H18 hx hlk hret (hb hby d_jdk_52_40_35) all0 ⟨_, rfl, rfl, hr25⟩ (by decide) (by decide)
set_option maxRecDepth 65536 in
set_option maxHeartbeats 40000000 in
theorem rm_ix2 (l : Launch) (Z : State) (a0 : Array Value) (hw : ∀ d ∈ tables_1, d.before a0 Z = true) (hE : EW Z a0 ELx) (a1 : Addr) (cs : List Int32) (q1 : Int32) (zc : Int32) (fm : Value) (h0 : Heap) (O0 : Ext Z.heap h0) (Sx : own_str Z h0 a1 cs) (lx : cs.length ≤ 4) (h0n : 0 < cs.length) (hq1 : ¬ q1 < (0 : Int32) ∧ ¬ (255 : Int32) < q1) (SC : Sta Z Z.heap "java/lang/String" "COMPACT_STRINGS" "Z" (.int zc)) (hzc : ¬ zc = 0) (SF : Sta Z Z.heap "jdk/internal/util/Preconditions" "SIOOBE_FORMATTER" "Ljava/util/function/BiFunction;" fm) (hfm : fm.isRef = true) (SA : Sta Z Z.heap "java/lang/StringUTF16" "$assertionsDisabled" "Z" (.int 1)) (SHB : Sta Z Z.heap "java/lang/StringUTF16" "HI_BYTE_SHIFT" "I" (.int 0)) (SLB : Sta Z Z.heap "java/lang/StringUTF16" "LO_BYTE_SHIFT" "I" (.int 8)) :
    Ct l Z ELx a0 true (⟨"java/lang/String", "indexOf", "(II)I"⟩ : MethodName) jdk_42_method_80_code 3 (some .int) [] ({ frames := 5, cells := 0, slots := 0, locals := 90 } : Room) #[(.ref a1), (.int q1), (.int (0 : Int32))] h0 [] (fun _ => []) (fun v h => ∃ r : Int32, v = some (.int r) ∧ h0 = h ∧ (r < 0 ↔ ¬ q1 ∈ cs)) := by
  refine own_enter (plainFor_of_name pn_1) hE O0 ?_
  intro p e s m below meth c s₁ hx hby hml hown hnm hret hlk H0
  refine Go.eq (ef_rm_ix2 m a1 q1 (0 : Int32)) ?_
  have hp := Sx.chars
  have Sy := Sx
  obtain ⟨t1, kb1, cd, M2, vs, E1, F1, F2, V2, hcd, -⟩ := Sx
  rcases hcd with ⟨rfl, rfl, rfl, hlat⟩ | ⟨rfl, rfl, rfl, hbig⟩
  · skip
    show Go p e below _ s₁ (mkF m 0 #[.val (.ref a1), .val (.int q1), .val (.int (0 : Int32))] [])
    refine Go.of (fun _ => XS.aloadN H0.here hx rfl (hb hby d_jdk_42_80_0) rfl rfl) ?_
    show Go p e below _ s₁ (mkF m 1 #[.val (.ref a1), .val (.int q1), .val (.int (0 : Int32))] [(.ref a1)])
    refine own_virtualW H0 hx (y := (⟨"java/lang/String", "isLatin1", "()Z"⟩ : MethodName)) (z := (⟨"java/lang/String", "isLatin1", "()Z"⟩ : MethodName)) hown (ow hw 62 rfl) (ow hw 63 rfl) (own_nf (ow hw 65 rfl) rfl) (ow hw 65 rfl) (ow hw 64 rfl) (ow hw 7 rfl) (ow hw 66 rfl) (by decide) (W := 0) (rm_isl0 l Z a0 hw hE a1 zc h0 H0.old F1 SC hzc) (fun _ hq => nomatch hq) (by decide) (by decide) E1 rfl (by rw [hml]; rfl) (argsL := []) (rest := []) rfl (lenOf pd_15 rfl) rfl (by show 2 * 0 + _ ≤ _; exact Nat.le_of_eq rfl) (hb hby d_jdk_42_80_1) (by decide) (by decide) fun T1 h3 v5 H2 hs6 q4 => ?_
    obtain ⟨ve8, e7⟩ := q4
    subst e7
    subst ve8
    show Go p e below _ T1 (mkF m 4 #[.val (.ref a1), .val (.int q1), .val (.int (0 : Int32))] [(.int (1 : Int32))])
    refine Go.of (fun _ => XS.ifNo H2.here hx rfl (hb hby d_jdk_42_80_4) rfl ((if0 _ _).trans (feq (by decide : ¬ ((1 : Int32) = (0 : Int32)))).1)) ?_
    show Go p e below _ T1 (mkF m 7 #[.val (.ref a1), .val (.int q1), .val (.int (0 : Int32))] [])
    refine Go.of (fun _ => XS.aloadN H2.here hx rfl (hb hby d_jdk_42_80_7) rfl rfl) ?_
    show Go p e below _ T1 (mkF m 8 #[.val (.ref a1), .val (.int q1), .val (.int (0 : Int32))] [(.ref a1)])
    refine own_getF H2 hx hown (host := "") (Or.inl (ow hw 24 rfl)) Via.refl F2 rfl rfl (hb hby d_jdk_42_80_8) fun T9 H10 => ?_
    show Go p e below _ T9 (mkF m 11 #[.val (.ref a1), .val (.int q1), .val (.int (0 : Int32))] [(.ref t1)])
    refine Go.of (fun _ => XS.iloadN H10.here hx rfl (hb hby d_jdk_42_80_11) rfl) ?_
    show Go p e below _ T9 (mkF m 12 #[.val (.ref a1), .val (.int q1), .val (.int (0 : Int32))] [(.int q1), (.ref t1)])
    refine Go.of (fun _ => XS.iloadN H10.here hx rfl (hb hby d_jdk_42_80_12) rfl) ?_
    show Go p e below _ T9 (mkF m 13 #[.val (.ref a1), .val (.int q1), .val (.int (0 : Int32))] [(.int (0 : Int32)), (.int q1), (.ref t1)])
    refine Go.of (fun _ => XS.aloadN H10.here hx rfl (hb hby d_jdk_42_80_13) rfl rfl) ?_
    show Go p e below _ T9 (mkF m 14 #[.val (.ref a1), .val (.int q1), .val (.int (0 : Int32))] [(.ref a1), (.int (0 : Int32)), (.int q1), (.ref t1)])
    refine own_lenS H10 hx hown (ow hw 67 rfl) (ow hw 68 rfl) (ow hw 70 rfl) (ow hw 69 rfl) (own_hwl hw) (ow hw 6 rfl) Sy (Nat.le_trans lx (by decide)) SC hzc (W := 3) (by decide) (by decide) rfl (by rw [hml]; rfl) rfl (by show 2 * 0 + _ ≤ _; exact Nat.le_of_eq rfl) (hb hby d_jdk_42_80_14) (by decide) (by decide) fun T11 H12 => ?_
    show Go p e below _ T11 (mkF m 17 #[.val (.ref a1), .val (.int q1), .val (.int (0 : Int32))] [(.int (Int32.ofNat (cs).length)), (.int (0 : Int32)), (.int q1), (.ref t1)])
    refine own_staticW H12 hx (y := (⟨"java/lang/StringLatin1", "indexOf", "([BIII)I"⟩ : MethodName)) hown (ow hw 77 rfl) (ow hw 78 rfl) (ow hw 79 rfl) (ow hw 80 rfl) (by decide) (W := 0) (rm_lix l Z a0 hw hE t1 kb1 cs.length cs q1 h0 H12.old V2 rfl lx hp hlat hq1 h0n) (fun _ hq => nomatch hq) (by decide) (by decide) rfl (by rw [hml]; rfl) (argsL := [(.ref t1), (.int q1), (.int (0 : Int32)), (.int (Int32.ofNat (cs).length))]) (rest := []) rfl (lenOf pd_10 rfl) rfl (by show 2 * 0 + _ ≤ _; exact Nat.le_of_eq rfl) (hb hby d_jdk_42_80_17) (by decide) (by decide) fun T13 h15 v17 H14 hs18 q16 => ?_
    obtain ⟨r19, rfl, e20, hr21⟩ := q16
    subst e20
    show Go p e below _ T13 (mkF m 20 #[.val (.ref a1), .val (.int q1), .val (.int (0 : Int32))] [(.int r19)])
    refine Go.of (fun _ => XS.goto H14.here hx rfl (pc0 := 20) (pc' := 36) rfl (hb hby d_jdk_42_80_20) (by decide) (by decide)) ?_
    show Go p e below _ T13 (mkF m 36 #[.val (.ref a1), .val (.int q1), .val (.int (0 : Int32))] [(.int r19)])
    exact own_retI H14 hx hlk hret (hb hby d_jdk_42_80_36) all0 ⟨_, rfl, rfl, hr21⟩ (by decide) (by decide)
  · skip
    show Go p e below _ s₁ (mkF m 0 #[.val (.ref a1), .val (.int q1), .val (.int (0 : Int32))] [])
    refine Go.of (fun _ => XS.aloadN H0.here hx rfl (hb hby d_jdk_42_80_0) rfl rfl) ?_
    show Go p e below _ s₁ (mkF m 1 #[.val (.ref a1), .val (.int q1), .val (.int (0 : Int32))] [(.ref a1)])
    refine own_virtualW H0 hx (y := (⟨"java/lang/String", "isLatin1", "()Z"⟩ : MethodName)) (z := (⟨"java/lang/String", "isLatin1", "()Z"⟩ : MethodName)) hown (ow hw 62 rfl) (ow hw 63 rfl) (own_nf (ow hw 65 rfl) rfl) (ow hw 65 rfl) (ow hw 64 rfl) (ow hw 7 rfl) (ow hw 66 rfl) (by decide) (W := 0) (rm_isl1 l Z a0 hw hE a1 zc h0 H0.old F1 SC hzc) (fun _ hq => nomatch hq) (by decide) (by decide) E1 rfl (by rw [hml]; rfl) (argsL := []) (rest := []) rfl (lenOf pd_15 rfl) rfl (by show 2 * 0 + _ ≤ _; exact Nat.le_of_eq rfl) (hb hby d_jdk_42_80_1) (by decide) (by decide) fun T22 h24 v26 H23 hs27 q25 => ?_
    obtain ⟨ve29, e28⟩ := q25
    subst e28
    subst ve29
    show Go p e below _ T22 (mkF m 4 #[.val (.ref a1), .val (.int q1), .val (.int (0 : Int32))] [(.int (0 : Int32))])
    refine Go.of (fun _ => XS.ifYes H23.here hx rfl (pc0 := 4) (pc' := 23) rfl (hb hby d_jdk_42_80_4) rfl ((if0 _ _).trans (teq (by decide : (0 : Int32) = (0 : Int32))).1) (by decide) (by decide)) ?_
    show Go p e below _ T22 (mkF m 23 #[.val (.ref a1), .val (.int q1), .val (.int (0 : Int32))] [])
    refine Go.of (fun _ => XS.aloadN H23.here hx rfl (hb hby d_jdk_42_80_23) rfl rfl) ?_
    show Go p e below _ T22 (mkF m 24 #[.val (.ref a1), .val (.int q1), .val (.int (0 : Int32))] [(.ref a1)])
    refine own_getF H23 hx hown (host := "") (Or.inl (ow hw 24 rfl)) Via.refl F2 rfl rfl (hb hby d_jdk_42_80_24) fun T30 H31 => ?_
    show Go p e below _ T30 (mkF m 27 #[.val (.ref a1), .val (.int q1), .val (.int (0 : Int32))] [(.ref t1)])
    refine Go.of (fun _ => XS.iloadN H31.here hx rfl (hb hby d_jdk_42_80_27) rfl) ?_
    show Go p e below _ T30 (mkF m 28 #[.val (.ref a1), .val (.int q1), .val (.int (0 : Int32))] [(.int q1), (.ref t1)])
    refine Go.of (fun _ => XS.iloadN H31.here hx rfl (hb hby d_jdk_42_80_28) rfl) ?_
    show Go p e below _ T30 (mkF m 29 #[.val (.ref a1), .val (.int q1), .val (.int (0 : Int32))] [(.int (0 : Int32)), (.int q1), (.ref t1)])
    refine Go.of (fun _ => XS.aloadN H31.here hx rfl (hb hby d_jdk_42_80_29) rfl rfl) ?_
    show Go p e below _ T30 (mkF m 30 #[.val (.ref a1), .val (.int q1), .val (.int (0 : Int32))] [(.ref a1), (.int (0 : Int32)), (.int q1), (.ref t1)])
    refine own_lenS H31 hx hown (ow hw 67 rfl) (ow hw 68 rfl) (ow hw 70 rfl) (ow hw 69 rfl) (own_hwl hw) (ow hw 6 rfl) Sy (Nat.le_trans lx (by decide)) SC hzc (W := 3) (by decide) (by decide) rfl (by rw [hml]; rfl) rfl (by show 2 * 0 + _ ≤ _; exact Nat.le_of_eq rfl) (hb hby d_jdk_42_80_30) (by decide) (by decide) fun T32 H33 => ?_
    show Go p e below _ T32 (mkF m 33 #[.val (.ref a1), .val (.int q1), .val (.int (0 : Int32))] [(.int (Int32.ofNat (cs).length)), (.int (0 : Int32)), (.int q1), (.ref t1)])
    refine own_staticW H33 hx (y := (⟨"java/lang/StringUTF16", "indexOf", "([BIII)I"⟩ : MethodName)) hown (ow hw 114 rfl) (ow hw 115 rfl) (ow hw 38 rfl) (ow hw 116 rfl) (by decide) (W := 0) (rm_uix l Z a0 hw hE t1 kb1 cs.length cs q1 fm h0 H33.old V2 rfl lx hp SF hfm SA SHB SLB hq1 h0n) (fun _ hq => nomatch hq) (by decide) (by decide) rfl (by rw [hml]; rfl) (argsL := [(.ref t1), (.int q1), (.int (0 : Int32)), (.int (Int32.ofNat (cs).length))]) (rest := []) rfl (lenOf pd_10 rfl) rfl (by show 2 * 0 + _ ≤ _; exact Nat.le_of_eq rfl) (hb hby d_jdk_42_80_33) (by decide) (by decide) fun T34 h36 v38 H35 hs39 q37 => ?_
    obtain ⟨r40, rfl, e41, hr42⟩ := q37
    subst e41
    show Go p e below _ T34 (mkF m 36 #[.val (.ref a1), .val (.int q1), .val (.int (0 : Int32))] [(.int r40)])
    exact own_retI H35 hx hlk hret (hb hby d_jdk_42_80_36) all0 ⟨_, rfl, rfl, hr42⟩ (by decide) (by decide)
set_option maxRecDepth 65536 in
set_option maxHeartbeats 40000000 in
theorem rm_ix1 (l : Launch) (Z : State) (a0 : Array Value) (hw : ∀ d ∈ tables_1, d.before a0 Z = true) (hE : EW Z a0 ELx) (a1 : Addr) (cs : List Int32) (q1 : Int32) (zc : Int32) (fm : Value) (h0 : Heap) (O0 : Ext Z.heap h0) (Sx : own_str Z h0 a1 cs) (lx : cs.length ≤ 4) (h0n : 0 < cs.length) (hq1 : ¬ q1 < (0 : Int32) ∧ ¬ (255 : Int32) < q1) (SC : Sta Z Z.heap "java/lang/String" "COMPACT_STRINGS" "Z" (.int zc)) (hzc : ¬ zc = 0) (SF : Sta Z Z.heap "jdk/internal/util/Preconditions" "SIOOBE_FORMATTER" "Ljava/util/function/BiFunction;" fm) (hfm : fm.isRef = true) (SA : Sta Z Z.heap "java/lang/StringUTF16" "$assertionsDisabled" "Z" (.int 1)) (SHB : Sta Z Z.heap "java/lang/StringUTF16" "HI_BYTE_SHIFT" "I" (.int 0)) (SLB : Sta Z Z.heap "java/lang/StringUTF16" "LO_BYTE_SHIFT" "I" (.int 8)) :
    Ct l Z ELx a0 true (⟨"java/lang/String", "indexOf", "(I)I"⟩ : MethodName) jdk_42_method_79_code 2 (some .int) [] ({ frames := 6, cells := 0, slots := 0, locals := 110 } : Room) #[(.ref a1), (.int q1)] h0 [] (fun _ => []) (fun v h => ∃ r : Int32, v = some (.int r) ∧ h0 = h ∧ (r < 0 ↔ ¬ q1 ∈ cs)) := by
  refine own_enter (plainFor_of_name pn_1) hE O0 ?_
  intro p e s m below meth c s₁ hx hby hml hown hnm hret hlk H0
  refine Go.eq (ef_rm_ix1 m a1 q1) ?_
  show Go p e below _ s₁ (mkF m 0 #[.val (.ref a1), .val (.int q1)] [])
  refine Go.of (fun _ => XS.aloadN H0.here hx rfl (hb hby d_jdk_42_79_0) rfl rfl) ?_
  show Go p e below _ s₁ (mkF m 1 #[.val (.ref a1), .val (.int q1)] [(.ref a1)])
  refine Go.of (fun _ => XS.iloadN H0.here hx rfl (hb hby d_jdk_42_79_1) rfl) ?_
  show Go p e below _ s₁ (mkF m 2 #[.val (.ref a1), .val (.int q1)] [(.int q1), (.ref a1)])
  refine Go.of (fun _ => XS.iconst H0.here hx rfl (hb hby d_jdk_42_79_2)) ?_
  show Go p e below _ s₁ (mkF m 3 #[.val (.ref a1), .val (.int q1)] [(.int (0 : Int32)), (.int q1), (.ref a1)])
  refine own_virtualW H0 hx (y := (⟨"java/lang/String", "indexOf", "(II)I"⟩ : MethodName)) (z := (⟨"java/lang/String", "indexOf", "(II)I"⟩ : MethodName)) hown (ow hw 57 rfl) (ow hw 58 rfl) (own_nf (ow hw 60 rfl) rfl) (ow hw 60 rfl) (ow hw 59 rfl) (ow hw 7 rfl) (ow hw 61 rfl) (by decide) (W := 0) (rm_ix2 l Z a0 hw hE a1 cs q1 zc fm h0 H0.old Sx lx h0n hq1 SC hzc SF hfm SA SHB SLB) (fun _ hq => nomatch hq) (by decide) (by decide) Sx.exa rfl (by rw [hml]; rfl) (argsL := [(.int q1), (.int (0 : Int32))]) (rest := []) rfl (lenOf pd_9 rfl) rfl (by show 2 * 0 + _ ≤ _; exact Nat.le_of_eq rfl) (hb hby d_jdk_42_79_3) (by decide) (by decide) fun T1 h3 v5 H2 hs6 q4 => ?_
  obtain ⟨r7, rfl, e8, hr9⟩ := q4
  subst e8
  show Go p e below _ T1 (mkF m 6 #[.val (.ref a1), .val (.int q1)] [(.int r7)])
  exact own_retI H2 hx hlk hret (hb hby d_jdk_42_79_6) all0 ⟨_, rfl, rfl, hr9⟩ (by decide) (by decide)
set_option maxRecDepth 65536 in
set_option maxHeartbeats 40000000 in
theorem rm_hwc (l : Launch) (Z : State) (a0 : Array Value) (hw : ∀ d ∈ tables_1, d.before a0 Z = true) (hE : EW Z a0 ELx) (a1 : Addr) (cs : List Int32) (zc : Int32) (fm : Value) (h0 : Heap) (O0 : Ext Z.heap h0) (Sx : own_str Z h0 a1 cs) (lx : cs.length ≤ 4) (h0n : 0 < cs.length) (SC : Sta Z Z.heap "java/lang/String" "COMPACT_STRINGS" "Z" (.int zc)) (hzc : ¬ zc = 0) (SF : Sta Z Z.heap "jdk/internal/util/Preconditions" "SIOOBE_FORMATTER" "Ljava/util/function/BiFunction;" fm) (hfm : fm.isRef = true) (SA : Sta Z Z.heap "java/lang/StringUTF16" "$assertionsDisabled" "Z" (.int 1)) (SHB : Sta Z Z.heap "java/lang/StringUTF16" "HI_BYTE_SHIFT" "I" (.int 0)) (SLB : Sta Z Z.heap "java/lang/StringUTF16" "LO_BYTE_SHIFT" "I" (.int 8)) :
    Ct l Z ELx a0 true (⟨"com/example/brokerward/brokerward/rules/TopicFilter", "hasWildcard", "(Ljava/lang/String;)Z"⟩ : MethodName) prog_53_method_5_code 1 (some .boolean) [] ({ frames := 7, cells := 0, slots := 0, locals := 125 } : Room) #[(.ref a1)] h0 [] (fun _ => []) (fun v h => v = some (.int (if own_wc cs then 1 else 0)) ∧ h0 = h) := by
  refine own_enter (plainFor_of_name pn_5) hE O0 ?_
  intro p e s m below meth c s₁ hx hby hml hown hnm hret hlk H0
  refine Go.eq (ef_rm_hwc m a1) ?_
  show Go p e below _ s₁ (mkF m 0 #[.val (.ref a1)] [])
  refine Go.of (fun _ => XS.aloadN H0.here hx rfl (hb hby d_prog_53_5_0) rfl rfl) ?_
  show Go p e below _ s₁ (mkF m 1 #[.val (.ref a1)] [(.ref a1)])
  refine Go.of (fun _ => XS.bipush H0.here hx rfl (hb hby d_prog_53_5_1)) ?_
  show Go p e below _ s₁ (mkF m 3 #[.val (.ref a1)] [(.int (43 : Int32)), (.ref a1)])
  refine own_virtualW H0 hx (y := (⟨"java/lang/String", "indexOf", "(I)I"⟩ : MethodName)) (z := (⟨"java/lang/String", "indexOf", "(I)I"⟩ : MethodName)) hown (ow hw 52 rfl) (ow hw 53 rfl) (own_nf (ow hw 55 rfl) rfl) (ow hw 55 rfl) (ow hw 54 rfl) (ow hw 7 rfl) (ow hw 56 rfl) (by decide) (W := 0) (rm_ix1 l Z a0 hw hE a1 cs (43 : Int32) zc fm h0 H0.old Sx lx h0n (by decide) SC hzc SF hfm SA SHB SLB) (fun _ hq => nomatch hq) (by decide) (by decide) Sx.exa rfl (by rw [hml]; rfl) (argsL := [(.int (43 : Int32))]) (rest := []) rfl (lenOf pd_0 rfl) rfl (by show 2 * 0 + _ ≤ _; exact Nat.le_of_eq rfl) (hb hby d_prog_53_5_3) (by decide) (by decide) fun T1 h3 v5 H2 hs6 q4 => ?_
  obtain ⟨r7, rfl, e8, hr9⟩ := q4
  subst e8
  show Go p e below _ T1 (mkF m 6 #[.val (.ref a1)] [(.int r7)])
  by_cases hbr10 : r7 < (0 : Int32)
  · skip
    refine Go.of (fun _ => XS.ifNo H2.here hx rfl (hb hby d_prog_53_5_6) rfl ((if0 _ _).trans (tlt hbr10).2.1)) ?_
    show Go p e below _ T1 (mkF m 9 #[.val (.ref a1)] [])
    refine Go.of (fun _ => XS.aloadN H2.here hx rfl (hb hby d_prog_53_5_9) rfl rfl) ?_
    show Go p e below _ T1 (mkF m 10 #[.val (.ref a1)] [(.ref a1)])
    refine Go.of (fun _ => XS.bipush H2.here hx rfl (hb hby d_prog_53_5_10)) ?_
    show Go p e below _ T1 (mkF m 12 #[.val (.ref a1)] [(.int (35 : Int32)), (.ref a1)])
    refine own_virtualW H2 hx (y := (⟨"java/lang/String", "indexOf", "(I)I"⟩ : MethodName)) (z := (⟨"java/lang/String", "indexOf", "(I)I"⟩ : MethodName)) hown (ow hw 52 rfl) (ow hw 53 rfl) (own_nf (ow hw 55 rfl) rfl) (ow hw 55 rfl) (ow hw 54 rfl) (ow hw 7 rfl) (ow hw 56 rfl) (by decide) (W := 0) (rm_ix1 l Z a0 hw hE a1 cs (35 : Int32) zc fm h0 H2.old Sx lx h0n (by decide) SC hzc SF hfm SA SHB SLB) (fun _ hq => nomatch hq) (by decide) (by decide) Sx.exa rfl (by rw [hml]; rfl) (argsL := [(.int (35 : Int32))]) (rest := []) rfl (lenOf pd_0 rfl) rfl (by show 2 * 0 + _ ≤ _; exact Nat.le_of_eq rfl) (hb hby d_prog_53_5_12) (by decide) (by decide) fun T11 h13 v15 H12 hs16 q14 => ?_
    obtain ⟨r17, rfl, e18, hr19⟩ := q14
    subst e18
    show Go p e below _ T11 (mkF m 15 #[.val (.ref a1)] [(.int r17)])
    by_cases hbr20 : r17 < (0 : Int32)
    · skip
      refine Go.of (fun _ => XS.ifYes H12.here hx rfl (pc0 := 15) (pc' := 22) rfl (hb hby d_prog_53_5_15) rfl ((if0 _ _).trans (tlt hbr20).1) (by decide) (by decide)) ?_
      show Go p e below _ T11 (mkF m 22 #[.val (.ref a1)] [])
      refine Go.of (fun _ => XS.iconst H12.here hx rfl (hb hby d_prog_53_5_22)) ?_
      show Go p e below _ T11 (mkF m 23 #[.val (.ref a1)] [(.int (0 : Int32))])
      exact own_retN H12 hx hlk (t := .boolean) hret (by simp) (hb hby d_prog_53_5_23) all0 ⟨by rw [if_neg (fun q => q.elim (hr9.mp hbr10) (hr19.mp hbr20))]; rfl, rfl⟩ (by decide) (by decide)
    · skip
      refine Go.of (fun _ => XS.ifNo H12.here hx rfl (hb hby d_prog_53_5_15) rfl ((if0 _ _).trans (flt hbr20).1)) ?_
      show Go p e below _ T11 (mkF m 18 #[.val (.ref a1)] [])
      refine Go.of (fun _ => XS.iconst H12.here hx rfl (hb hby d_prog_53_5_18)) ?_
      show Go p e below _ T11 (mkF m 19 #[.val (.ref a1)] [(.int (1 : Int32))])
      refine Go.of (fun _ => XS.goto H12.here hx rfl (pc0 := 19) (pc' := 23) rfl (hb hby d_prog_53_5_19) (by decide) (by decide)) ?_
      show Go p e below _ T11 (mkF m 23 #[.val (.ref a1)] [(.int (1 : Int32))])
      exact own_retN H12 hx hlk (t := .boolean) hret (by simp) (hb hby d_prog_53_5_23) all0 ⟨by rw [if_pos (Or.inr (Classical.byContradiction fun q => hbr20 (hr19.mpr q)))]; rfl, rfl⟩ (by decide) (by decide)
  · skip
    refine Go.of (fun _ => XS.ifYes H2.here hx rfl (pc0 := 6) (pc' := 18) rfl (hb hby d_prog_53_5_6) rfl ((if0 _ _).trans (flt hbr10).2.1) (by decide) (by decide)) ?_
    show Go p e below _ T1 (mkF m 18 #[.val (.ref a1)] [])
    refine Go.of (fun _ => XS.iconst H2.here hx rfl (hb hby d_prog_53_5_18)) ?_
    show Go p e below _ T1 (mkF m 19 #[.val (.ref a1)] [(.int (1 : Int32))])
    refine Go.of (fun _ => XS.goto H2.here hx rfl (pc0 := 19) (pc' := 23) rfl (hb hby d_prog_53_5_19) (by decide) (by decide)) ?_
    show Go p e below _ T1 (mkF m 23 #[.val (.ref a1)] [(.int (1 : Int32))])
    exact own_retN H2 hx hlk (t := .boolean) hret (by simp) (hb hby d_prog_53_5_23) all0 ⟨by rw [if_pos (Or.inl (Classical.byContradiction fun q => hbr10 (hr9.mpr q)))]; rfl, rfl⟩ (by decide) (by decide)
set_option maxRecDepth 65536 in
set_option maxHeartbeats 40000000 in
theorem rm_ivt (l : Launch) (Z : State) (a0 : Array Value) (hw : ∀ d ∈ tables_1, d.before a0 Z = true) (hE : EW Z a0 ELx) (a1 : Addr) (cs : List Int32) (zc : Int32) (fm : Value) (h0 : Heap) (O0 : Ext Z.heap h0) (Sx : own_str Z h0 a1 cs) (lx : cs.length ≤ 4) (SC : Sta Z Z.heap "java/lang/String" "COMPACT_STRINGS" "Z" (.int zc)) (hzc : ¬ zc = 0) (SF : Sta Z Z.heap "jdk/internal/util/Preconditions" "SIOOBE_FORMATTER" "Ljava/util/function/BiFunction;" fm) (hfm : fm.isRef = true) (SA : Sta Z Z.heap "java/lang/StringUTF16" "$assertionsDisabled" "Z" (.int 1)) (SHB : Sta Z Z.heap "java/lang/StringUTF16" "HI_BYTE_SHIFT" "I" (.int 0)) (SLB : Sta Z Z.heap "java/lang/StringUTF16" "LO_BYTE_SHIFT" "I" (.int 8)) :
    Ct l Z ELx a0 true (⟨"com/example/brokerward/brokerward/rules/TopicFilter", "isValidTopicName", "(Ljava/lang/String;)Z"⟩ : MethodName) prog_53_method_4_code 1 (some .boolean) [] ({ frames := 8, cells := 0, slots := 0, locals := 140 } : Room) #[(.ref a1)] h0 [] (fun _ => []) (fun v h => v = some (.int (if own_vt cs then 1 else 0)) ∧ h0 = h) := by
  refine own_enter (plainFor_of_name pn_5) hE O0 ?_
  intro p e s m below meth c s₁ hx hby hml hown hnm hret hlk H0
  refine Go.eq (ef_rm_ivt m a1) ?_
  show Go p e below _ s₁ (mkF m 0 #[.val (.ref a1)] [])
  refine Go.of (fun _ => XS.aloadN H0.here hx rfl (hb hby d_prog_53_4_0) rfl rfl) ?_
  show Go p e below _ s₁ (mkF m 1 #[.val (.ref a1)] [(.ref a1)])
  refine own_emS H0 hx hown (ow hw 30 rfl) (ow hw 31 rfl) (ow hw 33 rfl) (ow hw 32 rfl) (own_hwe hw) (ow hw 6 rfl) Sx (Nat.le_trans lx (by decide)) (W := 0) (by decide) (by decide) rfl (by rw [hml]; rfl) rfl (by show 2 * 0 + _ ≤ _; exact Nat.le_of_eq rfl) (hb hby d_prog_53_4_1) (by decide) (by decide) fun T1 H2 => ?_
  show Go p e below _ T1 (mkF m 4 #[.val (.ref a1)] [(.int (if (cs).length = 0 then 1 else 0))])
  by_cases hq3 : (cs).length = 0
  · skip
    rw [if_pos hq3]
    show Go p e below _ T1 (mkF m 4 #[.val (.ref a1)] [(.int (1 : Int32))])
    refine Go.of (fun _ => XS.ifYes H2.here hx rfl (pc0 := 4) (pc' := 26) rfl (hb hby d_prog_53_4_4) rfl ((if0 _ _).trans (feq (by decide : ¬ ((1 : Int32) = (0 : Int32)))).2) (by decide) (by decide)) ?_
    show Go p e below _ T1 (mkF m 26 #[.val (.ref a1)] [])
    refine Go.of (fun _ => XS.iconst H2.here hx rfl (hb hby d_prog_53_4_26)) ?_
    show Go p e below _ T1 (mkF m 27 #[.val (.ref a1)] [(.int (0 : Int32))])
    exact own_retN H2 hx hlk (t := .boolean) hret (by simp) (hb hby d_prog_53_4_27) all0 ⟨by rw [if_neg (fun q => q.1 hq3)]; rfl, rfl⟩ (by decide) (by decide)
  · skip
    rw [if_neg hq3]
    show Go p e below _ T1 (mkF m 4 #[.val (.ref a1)] [(.int (0 : Int32))])
    refine Go.of (fun _ => XS.ifNo H2.here hx rfl (hb hby d_prog_53_4_4) rfl ((if0 _ _).trans (teq (by decide : (0 : Int32) = (0 : Int32))).2)) ?_
    show Go p e below _ T1 (mkF m 7 #[.val (.ref a1)] [])
    refine Go.of (fun _ => XS.aloadN H2.here hx rfl (hb hby d_prog_53_4_7) rfl rfl) ?_
    show Go p e below _ T1 (mkF m 8 #[.val (.ref a1)] [(.ref a1)])
    have h0n : 0 < cs.length := Nat.pos_of_ne_zero hq3
    refine own_staticW H2 hx (y := (⟨"com/example/brokerward/brokerward/rules/TopicFilter", "hasWildcard", "(Ljava/lang/String;)Z"⟩ : MethodName)) hown (ow hw 49 rfl) (ow hw 50 rfl) (ow hw 28 rfl) (ow hw 51 rfl) (by decide) (W := 0) (rm_hwc l Z a0 hw hE a1 cs zc fm h0 H2.old Sx lx h0n SC hzc SF hfm SA SHB SLB) (fun _ hq => nomatch hq) (by decide) (by decide) rfl (by rw [hml]; rfl) (argsL := [(.ref a1)]) (rest := []) rfl (lenOf pd_16 rfl) rfl (by show 2 * 0 + _ ≤ _; exact Nat.le_of_eq rfl) (hb hby d_prog_53_4_8) (by decide) (by decide) fun T4 h6 v8 H5 hs9 q7 => ?_
    obtain ⟨ve11, e10⟩ := q7
    subst e10
    subst ve11
    show Go p e below _ T4 (mkF m 11 #[.val (.ref a1)] [(.int (if own_wc cs then 1 else 0))])
    by_cases hq12 : own_wc cs
    · skip
      rw [if_pos hq12]
      show Go p e below _ T4 (mkF m 11 #[.val (.ref a1)] [(.int (1 : Int32))])
      refine Go.of (fun _ => XS.ifYes H5.here hx rfl (pc0 := 11) (pc' := 26) rfl (hb hby d_prog_53_4_11) rfl ((if0 _ _).trans (feq (by decide : ¬ ((1 : Int32) = (0 : Int32)))).2) (by decide) (by decide)) ?_
      show Go p e below _ T4 (mkF m 26 #[.val (.ref a1)] [])
      refine Go.of (fun _ => XS.iconst H5.here hx rfl (hb hby d_prog_53_4_26)) ?_
      show Go p e below _ T4 (mkF m 27 #[.val (.ref a1)] [(.int (0 : Int32))])
      exact own_retN H5 hx hlk (t := .boolean) hret (by simp) (hb hby d_prog_53_4_27) all0 ⟨by rw [if_neg (fun q => q.2.1 hq12)]; rfl, rfl⟩ (by decide) (by decide)
    · skip
      rw [if_neg hq12]
      show Go p e below _ T4 (mkF m 11 #[.val (.ref a1)] [(.int (0 : Int32))])
      refine Go.of (fun _ => XS.ifNo H5.here hx rfl (hb hby d_prog_53_4_11) rfl ((if0 _ _).trans (teq (by decide : (0 : Int32) = (0 : Int32))).2)) ?_
      show Go p e below _ T4 (mkF m 14 #[.val (.ref a1)] [])
      refine Go.of (fun _ => XS.aloadN H5.here hx rfl (hb hby d_prog_53_4_14) rfl rfl) ?_
      show Go p e below _ T4 (mkF m 15 #[.val (.ref a1)] [(.ref a1)])
      refine Go.of (fun _ => XS.iconst H5.here hx rfl (hb hby d_prog_53_4_15)) ?_
      show Go p e below _ T4 (mkF m 16 #[.val (.ref a1)] [(.int (0 : Int32)), (.ref a1)])
      refine own_virtualW H5 hx (y := (⟨"java/lang/String", "indexOf", "(I)I"⟩ : MethodName)) (z := (⟨"java/lang/String", "indexOf", "(I)I"⟩ : MethodName)) hown (ow hw 52 rfl) (ow hw 53 rfl) (own_nf (ow hw 55 rfl) rfl) (ow hw 55 rfl) (ow hw 54 rfl) (ow hw 7 rfl) (ow hw 56 rfl) (by decide) (W := 0) (rm_ix1 l Z a0 hw hE a1 cs (0 : Int32) zc fm h0 H5.old Sx lx h0n (by decide) SC hzc SF hfm SA SHB SLB) (fun _ hq => nomatch hq) (by decide) (by decide) Sx.exa rfl (by rw [hml]; rfl) (argsL := [(.int (0 : Int32))]) (rest := []) rfl (lenOf pd_0 rfl) rfl (by show 2 * 0 + _ ≤ _; exact Nat.le_of_eq rfl) (hb hby d_prog_53_4_16) (by decide) (by decide) fun T13 h15 v17 H14 hs18 q16 => ?_
      obtain ⟨r19, rfl, e20, hr21⟩ := q16
      subst e20
      show Go p e below _ T13 (mkF m 19 #[.val (.ref a1)] [(.int r19)])
      by_cases hbr22 : r19 < (0 : Int32)
      · skip
        refine Go.of (fun _ => XS.ifNo H14.here hx rfl (hb hby d_prog_53_4_19) rfl ((if0 _ _).trans (tlt hbr22).2.1)) ?_
        show Go p e below _ T13 (mkF m 22 #[.val (.ref a1)] [])
        refine Go.of (fun _ => XS.iconst H14.here hx rfl (hb hby d_prog_53_4_22)) ?_
        show Go p e below _ T13 (mkF m 23 #[.val (.ref a1)] [(.int (1 : Int32))])
        refine Go.of (fun _ => XS.goto H14.here hx rfl (pc0 := 23) (pc' := 27) rfl (hb hby d_prog_53_4_23) (by decide) (by decide)) ?_
        show Go p e below _ T13 (mkF m 27 #[.val (.ref a1)] [(.int (1 : Int32))])
        exact own_retN H14 hx hlk (t := .boolean) hret (by simp) (hb hby d_prog_53_4_27) all0 ⟨by rw [if_pos ⟨hq3, hq12, (hr21.mp hbr22)⟩]; rfl, rfl⟩ (by decide) (by decide)
      · skip
        refine Go.of (fun _ => XS.ifYes H14.here hx rfl (pc0 := 19) (pc' := 26) rfl (hb hby d_prog_53_4_19) rfl ((if0 _ _).trans (flt hbr22).2.1) (by decide) (by decide)) ?_
        show Go p e below _ T13 (mkF m 26 #[.val (.ref a1)] [])
        refine Go.of (fun _ => XS.iconst H14.here hx rfl (hb hby d_prog_53_4_26)) ?_
        show Go p e below _ T13 (mkF m 27 #[.val (.ref a1)] [(.int (0 : Int32))])
        exact own_retN H14 hx hlk (t := .boolean) hret (by simp) (hb hby d_prog_53_4_27) all0 ⟨by rw [if_neg (fun q => q.2.2 (Classical.byContradiction fun q => hbr22 (hr21.mpr q)))]; rfl, rfl⟩ (by decide) (by decide)
set_option maxRecDepth 65536 in
set_option maxHeartbeats 40000000 in
theorem rm_law (l : Launch) (Z : State) (a0 : Array Value) (hw : ∀ d ∈ tables_1, d.before a0 Z = true) (hE : EW Z a0 ELx) (p0 : Int32) (p1 : Int32) (p2 : Int32) (p3 : Int32) (zc : Int32) (fm : Value) (h0 : Heap) (O0 : Ext Z.heap h0) (SC : Sta Z Z.heap "java/lang/String" "COMPACT_STRINGS" "Z" (.int zc)) (hzc : ¬ zc = 0) (SF : Sta Z Z.heap "jdk/internal/util/Preconditions" "SIOOBE_FORMATTER" "Ljava/util/function/BiFunction;" fm) (hfm : fm.isRef = true) (SA : Sta Z Z.heap "java/lang/StringUTF16" "$assertionsDisabled" "Z" (.int 1)) (SHB : Sta Z Z.heap "java/lang/StringUTF16" "HI_BYTE_SHIFT" "I" (.int 0)) (SLB : Sta Z Z.heap "java/lang/StringUTF16" "LO_BYTE_SHIFT" "I" (.int 8)) :
    Ct l Z ELx a0 true x code maxLocals ret tables_1 room_1 #[(.int p0), (.int p1), (.int p2), (.int p3)] h0 [] (fun _ => []) (fun v h => v = some (.int 1)) := by
  refine own_enter (plainFor_of_name pn_2) hE O0 ?_
  intro p e s m below meth c s₁ hx hby hml hown hnm hret hlk H0
  have hml : c.maxLocals = 11 := hml
  have hret : meth.sig.returnType = (some .boolean) := hret
  refine Go.eq (ef_rm_law m p0 p1 p2 p3) ?_
  have hst := own_hst hw
  show Go p e below _ s₁ (mkF m 0 #[.val (.int p0), .val (.int p1), .val (.int p2), .val (.int p3), .unset, .unset, .unset, .unset, .unset, .unset, .unset] [])
  refine Go.of (fun _ => XS.iloadN H0.here hx rfl (hb hby at_0) rfl) ?_
  show Go p e below _ s₁ (mkF m 1 #[.val (.int p0), .val (.int p1), .val (.int p2), .val (.int p3), .unset, .unset, .unset, .unset, .unset, .unset, .unset] [(.int p0)])
  refine Go.of (fun _ => XS.iconst H0.here hx rfl (hb hby at_1)) ?_
  show Go p e below _ s₁ (mkF m 2 #[.val (.int p0), .val (.int p1), .val (.int p2), .val (.int p3), .unset, .unset, .unset, .unset, .unset, .unset, .unset] [(.int (3 : Int32)), (.int p0)])
  refine Go.of (fun _ => XS.iand H0.here hx rfl (hb hby at_2) rfl) ?_
  show Go p e below _ s₁ (mkF m 3 #[.val (.int p0), .val (.int p1), .val (.int p2), .val (.int p3), .unset, .unset, .unset, .unset, .unset, .unset, .unset] [(.int (p0 &&& (3 : Int32)))])
  refine Go.of (fun _ => XS.istore H0.here hx rfl (hb hby at_3) rfl (l' := #[.val (.int p0), .val (.int p1), .val (.int p2), .val (.int p3), .val (.int (p0 &&& (3 : Int32))), .unset, .unset, .unset, .unset, .unset, .unset]) rfl) ?_
  show Go p e below _ s₁ (mkF m 5 #[.val (.int p0), .val (.int p1), .val (.int p2), .val (.int p3), .val (.int (p0 &&& (3 : Int32))), .unset, .unset, .unset, .unset, .unset, .unset] [])
  refine Go.of (fun _ => XS.iloadN H0.here hx rfl (hb hby at_5) rfl) ?_
  show Go p e below _ s₁ (mkF m 6 #[.val (.int p0), .val (.int p1), .val (.int p2), .val (.int p3), .val (.int (p0 &&& (3 : Int32))), .unset, .unset, .unset, .unset, .unset, .unset] [(.int p1)])
  refine own_staticW H0 hx (y := (⟨"com/example/brokerward/brokerward/rules/TopicFilterIsValidTopicNamePinLaw", "pick", "(I)C"⟩ : MethodName)) hown (ow hw 0 rfl) (ow hw 1 rfl) (ow hw 2 rfl) (ow hw 3 rfl) (by decide) (W := 0) (rm_pick l Z a0 hw hE p1 h0 H0.old ) (fun _ hq => nomatch hq) (by decide) (by decide) rfl (by rw [hml]; rfl) (argsL := [(.int p1)]) (rest := []) rfl (lenOf pd_17 rfl) rfl (by show 2 * 0 + _ ≤ _; exact Nat.le_of_eq rfl) (hb hby at_6) (by decide) (by decide) fun T1 h3 v5 H2 hs6 q4 => ?_
  obtain ⟨ve8, e7⟩ := q4
  subst e7
  subst ve8
  show Go p e below _ T1 (mkF m 9 #[.val (.int p0), .val (.int p1), .val (.int p2), .val (.int p3), .val (.int (p0 &&& (3 : Int32))), .unset, .unset, .unset, .unset, .unset, .unset] [(.int (own_pick p1))])
  refine Go.of (fun _ => XS.istore H2.here hx rfl (hb hby at_9) rfl (l' := #[.val (.int p0), .val (.int p1), .val (.int p2), .val (.int p3), .val (.int (p0 &&& (3 : Int32))), .val (.int (own_pick p1)), .unset, .unset, .unset, .unset, .unset]) rfl) ?_
  show Go p e below _ T1 (mkF m 11 #[.val (.int p0), .val (.int p1), .val (.int p2), .val (.int p3), .val (.int (p0 &&& (3 : Int32))), .val (.int (own_pick p1)), .unset, .unset, .unset, .unset, .unset] [])
  refine Go.of (fun _ => XS.iloadN H2.here hx rfl (hb hby at_11) rfl) ?_
  show Go p e below _ T1 (mkF m 12 #[.val (.int p0), .val (.int p1), .val (.int p2), .val (.int p3), .val (.int (p0 &&& (3 : Int32))), .val (.int (own_pick p1)), .unset, .unset, .unset, .unset, .unset] [(.int p2)])
  refine own_staticW H2 hx (y := (⟨"com/example/brokerward/brokerward/rules/TopicFilterIsValidTopicNamePinLaw", "pick", "(I)C"⟩ : MethodName)) hown (ow hw 0 rfl) (ow hw 1 rfl) (ow hw 2 rfl) (ow hw 3 rfl) (by decide) (W := 0) (rm_pick l Z a0 hw hE p2 h0 H2.old ) (fun _ hq => nomatch hq) (by decide) (by decide) rfl (by rw [hml]; rfl) (argsL := [(.int p2)]) (rest := []) rfl (lenOf pd_17 rfl) rfl (by show 2 * 0 + _ ≤ _; exact Nat.le_of_eq rfl) (hb hby at_12) (by decide) (by decide) fun T9 h11 v13 H10 hs14 q12 => ?_
  obtain ⟨ve16, e15⟩ := q12
  subst e15
  subst ve16
  show Go p e below _ T9 (mkF m 15 #[.val (.int p0), .val (.int p1), .val (.int p2), .val (.int p3), .val (.int (p0 &&& (3 : Int32))), .val (.int (own_pick p1)), .unset, .unset, .unset, .unset, .unset] [(.int (own_pick p2))])
  refine Go.of (fun _ => XS.istore H10.here hx rfl (hb hby at_15) rfl (l' := #[.val (.int p0), .val (.int p1), .val (.int p2), .val (.int p3), .val (.int (p0 &&& (3 : Int32))), .val (.int (own_pick p1)), .val (.int (own_pick p2)), .unset, .unset, .unset, .unset]) rfl) ?_
  show Go p e below _ T9 (mkF m 17 #[.val (.int p0), .val (.int p1), .val (.int p2), .val (.int p3), .val (.int (p0 &&& (3 : Int32))), .val (.int (own_pick p1)), .val (.int (own_pick p2)), .unset, .unset, .unset, .unset] [])
  refine Go.of (fun _ => XS.iloadN H10.here hx rfl (hb hby at_17) rfl) ?_
  show Go p e below _ T9 (mkF m 18 #[.val (.int p0), .val (.int p1), .val (.int p2), .val (.int p3), .val (.int (p0 &&& (3 : Int32))), .val (.int (own_pick p1)), .val (.int (own_pick p2)), .unset, .unset, .unset, .unset] [(.int p3)])
  refine own_staticW H10 hx (y := (⟨"com/example/brokerward/brokerward/rules/TopicFilterIsValidTopicNamePinLaw", "pick", "(I)C"⟩ : MethodName)) hown (ow hw 0 rfl) (ow hw 1 rfl) (ow hw 2 rfl) (ow hw 3 rfl) (by decide) (W := 0) (rm_pick l Z a0 hw hE p3 h0 H10.old ) (fun _ hq => nomatch hq) (by decide) (by decide) rfl (by rw [hml]; rfl) (argsL := [(.int p3)]) (rest := []) rfl (lenOf pd_17 rfl) rfl (by show 2 * 0 + _ ≤ _; exact Nat.le_of_eq rfl) (hb hby at_18) (by decide) (by decide) fun T17 h19 v21 H18 hs22 q20 => ?_
  obtain ⟨ve24, e23⟩ := q20
  subst e23
  subst ve24
  show Go p e below _ T17 (mkF m 21 #[.val (.int p0), .val (.int p1), .val (.int p2), .val (.int p3), .val (.int (p0 &&& (3 : Int32))), .val (.int (own_pick p1)), .val (.int (own_pick p2)), .unset, .unset, .unset, .unset] [(.int (own_pick p3))])
  refine Go.of (fun _ => XS.istore H18.here hx rfl (hb hby at_21) rfl (l' := #[.val (.int p0), .val (.int p1), .val (.int p2), .val (.int p3), .val (.int (p0 &&& (3 : Int32))), .val (.int (own_pick p1)), .val (.int (own_pick p2)), .val (.int (own_pick p3)), .unset, .unset, .unset]) rfl) ?_
  show Go p e below _ T17 (mkF m 23 #[.val (.int p0), .val (.int p1), .val (.int p2), .val (.int p3), .val (.int (p0 &&& (3 : Int32))), .val (.int (own_pick p1)), .val (.int (own_pick p2)), .val (.int (own_pick p3)), .unset, .unset, .unset] [])
  have J23_25 : ∀ (n1 : Int32) (c0 : Int32) (c1 : Int32) (c2 : Int32), (n1 = 0 ∨ n1 = 1 ∨ n1 = 2 ∨ n1 = 3) → (¬ c0 < 0 ∧ ¬ (65535 : Int32) < c0) → (¬ c1 < 0 ∧ ¬ (65535 : Int32) < c1) → (¬ c2 < 0 ∧ ¬ (65535 : Int32) < c2) → Go p e below (own_fin Z ELx true s below (fun v h => v = some (.int 1)) (room_1).cells (room_1).slots (fun _ => [])) T17 (mkF m 23 #[.val (.int p0), .val (.int p1), .val (.int p2), .val (.int p3), .val (.int n1), .val (.int c0), .val (.int c1), .val (.int c2), .unset, .unset, .unset] []) := by
    intro n1 c0 c1 c2 hn1 hc0 hc1 hc2
    show Go p e below _ T17 (mkF m 23 #[.val (.int p0), .val (.int p1), .val (.int p2), .val (.int p3), .val (.int n1), .val (.int c0), .val (.int c1), .val (.int c2), .unset, .unset, .unset] [])
    rcases hn1 with rfl | rfl | rfl | rfl
    · skip
      show Go p e below _ T17 (mkF m 23 #[.val (.int p0), .val (.int p1), .val (.int p2), .val (.int p3), .val (.int (0 : Int32)), .val (.int c0), .val (.int c1), .val (.int c2), .unset, .unset, .unset] [])
      refine Go.of (fun _ => XS.iload H18.here hx rfl (hb hby at_23) rfl) ?_
      show Go p e below _ T17 (mkF m 25 #[.val (.int p0), .val (.int p1), .val (.int p2), .val (.int p3), .val (.int (0 : Int32)), .val (.int c0), .val (.int c1), .val (.int c2), .unset, .unset, .unset] [(.int (0 : Int32))])
      refine Go.of (fun _ => XS.ifNo H18.here hx rfl (hb hby at_25) rfl ((if0 _ _).trans (teq (by decide : (0 : Int32) = (0 : Int32))).2)) ?_
      show Go p e below _ T17 (mkF m 28 #[.val (.int p0), .val (.int p1), .val (.int p2), .val (.int p3), .val (.int (0 : Int32)), .val (.int c0), .val (.int c1), .val (.int c2), .unset, .unset, .unset] [])
      refine Go.of (fun _ => XS.iconst H18.here hx rfl (hb hby at_28)) ?_
      show Go p e below _ T17 (mkF m 29 #[.val (.int p0), .val (.int p1), .val (.int p2), .val (.int p3), .val (.int (0 : Int32)), .val (.int c0), .val (.int c1), .val (.int c2), .unset, .unset, .unset] [(.int (0 : Int32))])
      refine own_newP H18 hx (ow hw 4 rfl) rfl (hb hby at_29) rfl (by decide) (cap := 0) (by decide) (by decide) (by decide) (by decide) fun T26 h28 b29 kA32 g30 H27 E31 V33 => ?_
      have fr34 : Z.heap.size ≤ b29 := by rw [g30]; exact H18.old.1
      have V35 : Arv Z h28 b29 kA32 .char (0 : Int32) [] (.int (0 : Int32)) := V33.pad (pad_rep [] (.int (0 : Int32)) 0)
      show Go p e below _ T26 (mkF m 31 #[.val (.int p0), .val (.int p1), .val (.int p2), .val (.int p3), .val (.int (0 : Int32)), .val (.int c0), .val (.int c1), .val (.int c2), .unset, .unset, .unset] [(.ref b29)])
      refine Go.of (fun _ => XS.astore H27.here hx rfl (hb hby at_31) rfl rfl (l' := #[.val (.int p0), .val (.int p1), .val (.int p2), .val (.int p3), .val (.int (0 : Int32)), .val (.int c0), .val (.int c1), .val (.int c2), .val (.ref b29), .unset, .unset]) rfl) ?_
      show Go p e below _ T26 (mkF m 33 #[.val (.int p0), .val (.int p1), .val (.int p2), .val (.int p3), .val (.int (0 : Int32)), .val (.int c0), .val (.int c1), .val (.int c2), .val (.ref b29), .unset, .unset] [])
      refine Go.of (fun _ => XS.goto H27.here hx rfl (pc0 := 33) (pc' := 99) rfl (hb hby at_33) (by decide) (by decide)) ?_
      show Go p e below _ T26 (mkF m 99 #[.val (.int p0), .val (.int p1), .val (.int p2), .val (.int p3), .val (.int (0 : Int32)), .val (.int c0), .val (.int c1), .val (.int c2), .val (.ref b29), .unset, .unset] [])
      refine own_new H27 hx hown (ow hw 5 rfl) (ow hw 6 rfl) (ow hw 7 rfl) rfl (hb hby at_99) (by decide) (by decide) fun T36 h38 b39 g40 H37 E41 A42 D43 => ?_
      have ne44 : b29 ≠ b39 := by rw [g40]; exact Nat.ne_of_lt V35.lt
      have fr45 : Z.heap.size ≤ b39 := by rw [g40]; exact H27.old.1
      have f46 := V35.ext E41
      have f47 : Fld Z h38 b39 "java/lang/String" "value" "[B" .null := D43 (Or.inr (ow hw 20 rfl)) (ty := (.array .byte)) (by decide)
      have f48 : Fld Z h38 b39 "java/lang/String" "coder" "B" (.int (0 : Int32)) := D43 (Or.inr (ow hw 21 rfl)) (ty := .byte) (by decide)
      show Go p e below _ T36 (mkF m 102 #[.val (.int p0), .val (.int p1), .val (.int p2), .val (.int p3), .val (.int (0 : Int32)), .val (.int c0), .val (.int c1), .val (.int c2), .val (.ref b29), .unset, .unset] [(.ref b39)])
      refine Go.of (fun _ => XS.dup H37.here hx rfl (hb hby at_102) rfl rfl) ?_
      show Go p e below _ T36 (mkF m 103 #[.val (.int p0), .val (.int p1), .val (.int p2), .val (.int p3), .val (.int (0 : Int32)), .val (.int c0), .val (.int c1), .val (.int c2), .val (.ref b29), .unset, .unset] [(.ref b39), (.ref b39)])
      refine Go.of (fun _ => XS.aload H37.here hx rfl (hb hby at_103) rfl rfl) ?_
      show Go p e below _ T36 (mkF m 105 #[.val (.int p0), .val (.int p1), .val (.int p2), .val (.int p3), .val (.int (0 : Int32)), .val (.int c0), .val (.int c1), .val (.int c2), .val (.ref b29), .unset, .unset] [(.ref b29), (.ref b39), (.ref b39)])
      have hV49 : Arv Z h38 b29 kA32 .char (Int32.ofNat 0) (([] : List Int32).map Value.int) (.int (0 : Int32)) := by have := f46; exact this
      refine own_specialW H37 hx (y := (⟨"java/lang/String", "<init>", "([C)V"⟩ : MethodName)) rfl hown (ow hw 8 rfl) (ow hw 9 rfl) (ow hw 7 rfl) (ow hw 10 rfl) (by decide) (W := 1) (rm_s1 l Z a0 hw hE b39 b29 kA32 0 ([] : List Int32) (.int (0 : Int32)) zc h38 H37.old A42 f47 f48 fr45 ne44 hV49 rfl (by decide) all0c SC hzc SA SHB SLB) (allS (List.mem_of_getElem? (i := 0) rfl) all0) (by decide) (by decide) rfl (by rw [hml]; rfl) (a := b39) (argsL := [(.ref b29)]) (rest := [(.ref b39)]) rfl (lenOf pd_18 rfl) rfl (by show 2 * 0 + _ ≤ _; exact Nat.le_of_eq rfl) (hb hby at_105) (by decide) (by decide) fun T50 h52 v54 H51 hs55 q53 => ?_
      obtain ⟨rfl, KK, SS⟩ := q53
      have f56 := f46.keep KK (ninS ne44 nin0)
      have f57 := A42.keep KK
      show Go p e below _ T50 (mkF m 108 #[.val (.int p0), .val (.int p1), .val (.int p2), .val (.int p3), .val (.int (0 : Int32)), .val (.int c0), .val (.int c1), .val (.int c2), .val (.ref b29), .unset, .unset] [(.ref b39)])
      refine Go.of (fun _ => XS.astore H51.here hx rfl (hb hby at_108) rfl rfl (l' := #[.val (.int p0), .val (.int p1), .val (.int p2), .val (.int p3), .val (.int (0 : Int32)), .val (.int c0), .val (.int c1), .val (.int c2), .val (.ref b29), .val (.ref b39), .unset]) rfl) ?_
      show Go p e below _ T50 (mkF m 110 #[.val (.int p0), .val (.int p1), .val (.int p2), .val (.int p3), .val (.int (0 : Int32)), .val (.int c0), .val (.int c1), .val (.int c2), .val (.ref b29), .val (.ref b39), .unset] [])
      refine Go.of (fun _ => XS.iload H51.here hx rfl (hb hby at_110) rfl) ?_
      show Go p e below _ T50 (mkF m 112 #[.val (.int p0), .val (.int p1), .val (.int p2), .val (.int p3), .val (.int (0 : Int32)), .val (.int c0), .val (.int c1), .val (.int c2), .val (.ref b29), .val (.ref b39), .unset] [(.int (0 : Int32))])
      refine Go.of (fun _ => XS.ifYes H51.here hx rfl (pc0 := 112) (pc' := 160) rfl (hb hby at_112) rfl ((if0 _ _).trans (flt (by decide : ¬ ((0 : Int32) < (0 : Int32)))).2.2.2) (by decide) (by decide)) ?_
      show Go p e below _ T50 (mkF m 160 #[.val (.int p0), .val (.int p1), .val (.int p2), .val (.int p3), .val (.int (0 : Int32)), .val (.int c0), .val (.int c1), .val (.int c2), .val (.ref b29), .val (.ref b39), .unset] [])
      refine Go.of (fun _ => XS.iconst H51.here hx rfl (hb hby at_160)) ?_
      show Go p e below _ T50 (mkF m 161 #[.val (.int p0), .val (.int p1), .val (.int p2), .val (.int p3), .val (.int (0 : Int32)), .val (.int c0), .val (.int c1), .val (.int c2), .val (.ref b29), .val (.ref b39), .unset] [(.int (0 : Int32))])
      refine Go.of (fun _ => XS.istore H51.here hx rfl (hb hby at_161) rfl (l' := #[.val (.int p0), .val (.int p1), .val (.int p2), .val (.int p3), .val (.int (0 : Int32)), .val (.int c0), .val (.int c1), .val (.int c2), .val (.ref b29), .val (.ref b39), .val (.int (0 : Int32))]) rfl) ?_
      show Go p e below _ T50 (mkF m 163 #[.val (.int p0), .val (.int p1), .val (.int p2), .val (.int p3), .val (.int (0 : Int32)), .val (.int c0), .val (.int c1), .val (.int c2), .val (.ref b29), .val (.ref b39), .val (.int (0 : Int32))] [])
      refine Go.of (fun _ => XS.aload H51.here hx rfl (hb hby at_163) rfl rfl) ?_
      show Go p e below _ T50 (mkF m 165 #[.val (.int p0), .val (.int p1), .val (.int p2), .val (.int p3), .val (.int (0 : Int32)), .val (.int c0), .val (.int c1), .val (.int c2), .val (.ref b29), .val (.ref b39), .val (.int (0 : Int32))] [(.ref b39)])
      refine own_staticW H51 hx (y := (⟨"com/example/brokerward/brokerward/rules/TopicFilter", "isValidTopicName", "(Ljava/lang/String;)Z"⟩ : MethodName)) hown (ow hw 26 rfl) (ow hw 27 rfl) (ow hw 28 rfl) (ow hw 29 rfl) (by decide) (W := 0) (rm_ivt l Z a0 hw hE b39 ([] : List Int32) zc fm h52 H51.old SS (by simp) SC hzc SF hfm SA SHB SLB) (fun _ hq => nomatch hq) (by decide) (by decide) rfl (by rw [hml]; rfl) (argsL := [(.ref b39)]) (rest := []) rfl (lenOf pd_16 rfl) rfl (by show 2 * 0 + _ ≤ _; exact Nat.le_of_eq rfl) (hb hby at_165) (by decide) (by decide) fun T60 h62 v64 H61 hs65 q63 => ?_
      obtain ⟨ve67, e66⟩ := q63
      subst e66
      subst ve67
      show Go p e below _ T60 (mkF m 168 #[.val (.int p0), .val (.int p1), .val (.int p2), .val (.int p3), .val (.int (0 : Int32)), .val (.int c0), .val (.int c1), .val (.int c2), .val (.ref b29), .val (.ref b39), .val (.int (0 : Int32))] [(.int (if own_vt ([] : List Int32) then 1 else 0))])
      rw [if_neg (show ¬ own_vt ([] : List Int32) from (fun q => q.1 rfl))]
      show Go p e below _ T60 (mkF m 168 #[.val (.int p0), .val (.int p1), .val (.int p2), .val (.int p3), .val (.int (0 : Int32)), .val (.int c0), .val (.int c1), .val (.int c2), .val (.ref b29), .val (.ref b39), .val (.int (0 : Int32))] [(.int (0 : Int32))])
      refine Go.of (fun _ => XS.iload H61.here hx rfl (hb hby at_168) rfl) ?_
      show Go p e below _ T60 (mkF m 170 #[.val (.int p0), .val (.int p1), .val (.int p2), .val (.int p3), .val (.int (0 : Int32)), .val (.int c0), .val (.int c1), .val (.int c2), .val (.ref b29), .val (.ref b39), .val (.int (0 : Int32))] [(.int (0 : Int32)), (.int (0 : Int32))])
      refine Go.of (fun _ => XS.icmpNo H61.here hx rfl (hb hby at_170) rfl (teq (by decide : (0 : Int32) = (0 : Int32))).2) ?_
      show Go p e below _ T60 (mkF m 173 #[.val (.int p0), .val (.int p1), .val (.int p2), .val (.int p3), .val (.int (0 : Int32)), .val (.int c0), .val (.int c1), .val (.int c2), .val (.ref b29), .val (.ref b39), .val (.int (0 : Int32))] [])
      refine Go.of (fun _ => XS.iconst H61.here hx rfl (hb hby at_173)) ?_
      show Go p e below _ T60 (mkF m 174 #[.val (.int p0), .val (.int p1), .val (.int p2), .val (.int p3), .val (.int (0 : Int32)), .val (.int c0), .val (.int c1), .val (.int c2), .val (.ref b29), .val (.ref b39), .val (.int (0 : Int32))] [(.int (1 : Int32))])
      refine Go.of (fun _ => XS.goto H61.here hx rfl (pc0 := 174) (pc' := 178) rfl (hb hby at_174) (by decide) (by decide)) ?_
      show Go p e below _ T60 (mkF m 178 #[.val (.int p0), .val (.int p1), .val (.int p2), .val (.int p3), .val (.int (0 : Int32)), .val (.int c0), .val (.int c1), .val (.int c2), .val (.ref b29), .val (.ref b39), .val (.int (0 : Int32))] [(.int (1 : Int32))])
      exact own_retN H61 hx hlk (t := .boolean) hret (by simp) (hb hby at_178) all0 rfl (by decide) (by decide)
    · skip
      show Go p e below _ T17 (mkF m 23 #[.val (.int p0), .val (.int p1), .val (.int p2), .val (.int p3), .val (.int (1 : Int32)), .val (.int c0), .val (.int c1), .val (.int c2), .unset, .unset, .unset] [])
      refine Go.of (fun _ => XS.iload H18.here hx rfl (hb hby at_23) rfl) ?_
      show Go p e below _ T17 (mkF m 25 #[.val (.int p0), .val (.int p1), .val (.int p2), .val (.int p3), .val (.int (1 : Int32)), .val (.int c0), .val (.int c1), .val (.int c2), .unset, .unset, .unset] [(.int (1 : Int32))])
      refine Go.of (fun _ => XS.ifYes H18.here hx rfl (pc0 := 25) (pc' := 36) rfl (hb hby at_25) rfl ((if0 _ _).trans (feq (by decide : ¬ ((1 : Int32) = (0 : Int32)))).2) (by decide) (by decide)) ?_
      show Go p e below _ T17 (mkF m 36 #[.val (.int p0), .val (.int p1), .val (.int p2), .val (.int p3), .val (.int (1 : Int32)), .val (.int c0), .val (.int c1), .val (.int c2), .unset, .unset, .unset] [])
      refine Go.of (fun _ => XS.iload H18.here hx rfl (hb hby at_36) rfl) ?_
      show Go p e below _ T17 (mkF m 38 #[.val (.int p0), .val (.int p1), .val (.int p2), .val (.int p3), .val (.int (1 : Int32)), .val (.int c0), .val (.int c1), .val (.int c2), .unset, .unset, .unset] [(.int (1 : Int32))])
      refine Go.of (fun _ => XS.iconst H18.here hx rfl (hb hby at_38)) ?_
      show Go p e below _ T17 (mkF m 39 #[.val (.int p0), .val (.int p1), .val (.int p2), .val (.int p3), .val (.int (1 : Int32)), .val (.int c0), .val (.int c1), .val (.int c2), .unset, .unset, .unset] [(.int (1 : Int32)), (.int (1 : Int32))])
      refine Go.of (fun _ => XS.icmpNo H18.here hx rfl (hb hby at_39) rfl (teq (by decide : (1 : Int32) = (1 : Int32))).2) ?_
      show Go p e below _ T17 (mkF m 42 #[.val (.int p0), .val (.int p1), .val (.int p2), .val (.int p3), .val (.int (1 : Int32)), .val (.int c0), .val (.int c1), .val (.int c2), .unset, .unset, .unset] [])
      refine Go.of (fun _ => XS.iconst H18.here hx rfl (hb hby at_42)) ?_
      show Go p e below _ T17 (mkF m 43 #[.val (.int p0), .val (.int p1), .val (.int p2), .val (.int p3), .val (.int (1 : Int32)), .val (.int c0), .val (.int c1), .val (.int c2), .unset, .unset, .unset] [(.int (1 : Int32))])
      refine own_newP H18 hx (ow hw 4 rfl) rfl (hb hby at_43) rfl (by decide) (cap := 1) (by decide) (by decide) (by decide) (by decide) fun T68 h70 b71 kA74 g72 H69 E73 V75 => ?_
      have fr76 : Z.heap.size ≤ b71 := by rw [g72]; exact H18.old.1
      have V77 : Arv Z h70 b71 kA74 .char (1 : Int32) [(.int (0 : Int32))] (.int (0 : Int32)) := V75.pad (pad_rep [] (.int (0 : Int32)) 1)
      show Go p e below _ T68 (mkF m 45 #[.val (.int p0), .val (.int p1), .val (.int p2), .val (.int p3), .val (.int (1 : Int32)), .val (.int c0), .val (.int c1), .val (.int c2), .unset, .unset, .unset] [(.ref b71)])
      refine Go.of (fun _ => XS.dup H69.here hx rfl (hb hby at_45) rfl rfl) ?_
      show Go p e below _ T68 (mkF m 46 #[.val (.int p0), .val (.int p1), .val (.int p2), .val (.int p3), .val (.int (1 : Int32)), .val (.int c0), .val (.int c1), .val (.int c2), .unset, .unset, .unset] [(.ref b71), (.ref b71)])
      refine Go.of (fun _ => XS.iconst H69.here hx rfl (hb hby at_46)) ?_
      show Go p e below _ T68 (mkF m 47 #[.val (.int p0), .val (.int p1), .val (.int p2), .val (.int p3), .val (.int (1 : Int32)), .val (.int c0), .val (.int c1), .val (.int c2), .unset, .unset, .unset] [(.int (0 : Int32)), (.ref b71), (.ref b71)])
      refine Go.of (fun _ => XS.iload H69.here hx rfl (hb hby at_47) rfl) ?_
      show Go p e below _ T68 (mkF m 49 #[.val (.int p0), .val (.int p1), .val (.int p2), .val (.int p3), .val (.int (1 : Int32)), .val (.int c0), .val (.int c1), .val (.int c2), .unset, .unset, .unset] [(.int c0), (.int (0 : Int32)), (.ref b71), (.ref b71)])
      refine own_castore H69 hx V77 ⟨by decide, by decide⟩ 0 (by decide) (Nat.le_of_ble_eq_true rfl) fr76 rfl rfl (hb hby at_49) fun T78 h80 H79 W81 V82 => ?_
      have V84 : Arv Z h80 b71 kA74 .char (1 : Int32) [(.int (nar .char c0))] (.int (0 : Int32)) := V82
      show Go p e below _ T78 (mkF m 50 #[.val (.int p0), .val (.int p1), .val (.int p2), .val (.int p3), .val (.int (1 : Int32)), .val (.int c0), .val (.int c1), .val (.int c2), .unset, .unset, .unset] [(.ref b71)])
      refine Go.of (fun _ => XS.astore H79.here hx rfl (hb hby at_50) rfl rfl (l' := #[.val (.int p0), .val (.int p1), .val (.int p2), .val (.int p3), .val (.int (1 : Int32)), .val (.int c0), .val (.int c1), .val (.int c2), .val (.ref b71), .unset, .unset]) rfl) ?_
      show Go p e below _ T78 (mkF m 52 #[.val (.int p0), .val (.int p1), .val (.int p2), .val (.int p3), .val (.int (1 : Int32)), .val (.int c0), .val (.int c1), .val (.int c2), .val (.ref b71), .unset, .unset] [])
      refine Go.of (fun _ => XS.goto H79.here hx rfl (pc0 := 52) (pc' := 99) rfl (hb hby at_52) (by decide) (by decide)) ?_
      show Go p e below _ T78 (mkF m 99 #[.val (.int p0), .val (.int p1), .val (.int p2), .val (.int p3), .val (.int (1 : Int32)), .val (.int c0), .val (.int c1), .val (.int c2), .val (.ref b71), .unset, .unset] [])
      refine own_new H79 hx hown (ow hw 5 rfl) (ow hw 6 rfl) (ow hw 7 rfl) rfl (hb hby at_99) (by decide) (by decide) fun T85 h87 b88 g89 H86 E90 A91 D92 => ?_
      have ne93 : b71 ≠ b88 := by rw [g89]; exact Nat.ne_of_lt V84.lt
      have fr94 : Z.heap.size ≤ b88 := by rw [g89]; exact H79.old.1
      have f95 := V84.ext E90
      have f96 : Fld Z h87 b88 "java/lang/String" "value" "[B" .null := D92 (Or.inr (ow hw 20 rfl)) (ty := (.array .byte)) (by decide)
      have f97 : Fld Z h87 b88 "java/lang/String" "coder" "B" (.int (0 : Int32)) := D92 (Or.inr (ow hw 21 rfl)) (ty := .byte) (by decide)
      show Go p e below _ T85 (mkF m 102 #[.val (.int p0), .val (.int p1), .val (.int p2), .val (.int p3), .val (.int (1 : Int32)), .val (.int c0), .val (.int c1), .val (.int c2), .val (.ref b71), .unset, .unset] [(.ref b88)])
      refine Go.of (fun _ => XS.dup H86.here hx rfl (hb hby at_102) rfl rfl) ?_
      show Go p e below _ T85 (mkF m 103 #[.val (.int p0), .val (.int p1), .val (.int p2), .val (.int p3), .val (.int (1 : Int32)), .val (.int c0), .val (.int c1), .val (.int c2), .val (.ref b71), .unset, .unset] [(.ref b88), (.ref b88)])
      refine Go.of (fun _ => XS.aload H86.here hx rfl (hb hby at_103) rfl rfl) ?_
      show Go p e below _ T85 (mkF m 105 #[.val (.int p0), .val (.int p1), .val (.int p2), .val (.int p3), .val (.int (1 : Int32)), .val (.int c0), .val (.int c1), .val (.int c2), .val (.ref b71), .unset, .unset] [(.ref b71), (.ref b88), (.ref b88)])
      have hV98 : Arv Z h87 b71 kA74 .char (Int32.ofNat 1) (([c0] : List Int32).map Value.int) (.int (0 : Int32)) := by have := f95; rw [own_narc16 hc0] at this; exact this
      refine own_specialW H86 hx (y := (⟨"java/lang/String", "<init>", "([C)V"⟩ : MethodName)) rfl hown (ow hw 8 rfl) (ow hw 9 rfl) (ow hw 7 rfl) (ow hw 10 rfl) (by decide) (W := 1) (rm_s1 l Z a0 hw hE b88 b71 kA74 1 ([c0] : List Int32) (.int (0 : Int32)) zc h87 H86.old A91 f96 f97 fr94 ne93 hV98 rfl (by decide) (allC hc0 all0c) SC hzc SA SHB SLB) (allS (List.mem_of_getElem? (i := 0) rfl) all0) (by decide) (by decide) rfl (by rw [hml]; rfl) (a := b88) (argsL := [(.ref b71)]) (rest := [(.ref b88)]) rfl (lenOf pd_18 rfl) rfl (by show 2 * 0 + _ ≤ _; exact Nat.le_of_eq rfl) (hb hby at_105) (by decide) (by decide) fun T99 h101 v103 H100 hs104 q102 => ?_
      obtain ⟨rfl, KK, SS⟩ := q102
      have f105 := f95.keep KK (ninS ne93 nin0)
      have f106 := A91.keep KK
      show Go p e below _ T99 (mkF m 108 #[.val (.int p0), .val (.int p1), .val (.int p2), .val (.int p3), .val (.int (1 : Int32)), .val (.int c0), .val (.int c1), .val (.int c2), .val (.ref b71), .unset, .unset] [(.ref b88)])
      refine Go.of (fun _ => XS.astore H100.here hx rfl (hb hby at_108) rfl rfl (l' := #[.val (.int p0), .val (.int p1), .val (.int p2), .val (.int p3), .val (.int (1 : Int32)), .val (.int c0), .val (.int c1), .val (.int c2), .val (.ref b71), .val (.ref b88), .unset]) rfl) ?_
      show Go p e below _ T99 (mkF m 110 #[.val (.int p0), .val (.int p1), .val (.int p2), .val (.int p3), .val (.int (1 : Int32)), .val (.int c0), .val (.int c1), .val (.int c2), .val (.ref b71), .val (.ref b88), .unset] [])
      refine Go.of (fun _ => XS.iload H100.here hx rfl (hb hby at_110) rfl) ?_
      show Go p e below _ T99 (mkF m 112 #[.val (.int p0), .val (.int p1), .val (.int p2), .val (.int p3), .val (.int (1 : Int32)), .val (.int c0), .val (.int c1), .val (.int c2), .val (.ref b71), .val (.ref b88), .unset] [(.int (1 : Int32))])
      refine Go.of (fun _ => XS.ifNo H100.here hx rfl (hb hby at_112) rfl ((if0 _ _).trans (tlt (by decide : (0 : Int32) < (1 : Int32))).2.2.2)) ?_
      show Go p e below _ T99 (mkF m 115 #[.val (.int p0), .val (.int p1), .val (.int p2), .val (.int p3), .val (.int (1 : Int32)), .val (.int c0), .val (.int c1), .val (.int c2), .val (.ref b71), .val (.ref b88), .unset] [])
      refine Go.of (fun _ => XS.iload H100.here hx rfl (hb hby at_115) rfl) ?_
      show Go p e below _ T99 (mkF m 117 #[.val (.int p0), .val (.int p1), .val (.int p2), .val (.int p3), .val (.int (1 : Int32)), .val (.int c0), .val (.int c1), .val (.int c2), .val (.ref b71), .val (.ref b88), .unset] [(.int (1 : Int32))])
      refine Go.of (fun _ => XS.ifNo H100.here hx rfl (hb hby at_117) rfl ((if0 _ _).trans (tlt (by decide : (0 : Int32) < (1 : Int32))).2.2.2)) ?_
      show Go p e below _ T99 (mkF m 120 #[.val (.int p0), .val (.int p1), .val (.int p2), .val (.int p3), .val (.int (1 : Int32)), .val (.int c0), .val (.int c1), .val (.int c2), .val (.ref b71), .val (.ref b88), .unset] [])
      refine Go.of (fun _ => XS.iload H100.here hx rfl (hb hby at_120) rfl) ?_
      show Go p e below _ T99 (mkF m 122 #[.val (.int p0), .val (.int p1), .val (.int p2), .val (.int p3), .val (.int (1 : Int32)), .val (.int c0), .val (.int c1), .val (.int c2), .val (.ref b71), .val (.ref b88), .unset] [(.int c0)])
      refine own_staticW H100 hx (y := (⟨"com/example/brokerward/brokerward/rules/TopicFilterIsValidTopicNamePinLaw", "bad", "(C)Z"⟩ : MethodName)) hown (ow hw 46 rfl) (ow hw 47 rfl) (ow hw 2 rfl) (ow hw 48 rfl) (by decide) (W := 0) (rm_bad l Z a0 hw hE c0 h101 H100.old ) (fun _ hq => nomatch hq) (by decide) (by decide) rfl (by rw [hml]; rfl) (argsL := [(.int c0)]) (rest := []) rfl (lenOf pd_19 rfl) rfl (by show 2 * 0 + _ ≤ _; exact Nat.le_of_eq rfl) (hb hby at_122) (by decide) (by decide) fun T109 h111 v113 H110 hs114 q112 => ?_
      obtain ⟨ve116, e115⟩ := q112
      subst e115
      subst ve116
      show Go p e below _ T109 (mkF m 125 #[.val (.int p0), .val (.int p1), .val (.int p2), .val (.int p3), .val (.int (1 : Int32)), .val (.int c0), .val (.int c1), .val (.int c2), .val (.ref b71), .val (.ref b88), .unset] [(.int (if own_bd c0 then 1 else 0))])
      by_cases hq117 : own_bd c0
      · skip
        rw [if_pos hq117]
        show Go p e below _ T109 (mkF m 125 #[.val (.int p0), .val (.int p1), .val (.int p2), .val (.int p3), .val (.int (1 : Int32)), .val (.int c0), .val (.int c1), .val (.int c2), .val (.ref b71), .val (.ref b88), .unset] [(.int (1 : Int32))])
        refine Go.of (fun _ => XS.ifYes H110.here hx rfl (pc0 := 125) (pc' := 160) rfl (hb hby at_125) rfl ((if0 _ _).trans (feq (by decide : ¬ ((1 : Int32) = (0 : Int32)))).2) (by decide) (by decide)) ?_
        show Go p e below _ T109 (mkF m 160 #[.val (.int p0), .val (.int p1), .val (.int p2), .val (.int p3), .val (.int (1 : Int32)), .val (.int c0), .val (.int c1), .val (.int c2), .val (.ref b71), .val (.ref b88), .unset] [])
        refine Go.of (fun _ => XS.iconst H110.here hx rfl (hb hby at_160)) ?_
        show Go p e below _ T109 (mkF m 161 #[.val (.int p0), .val (.int p1), .val (.int p2), .val (.int p3), .val (.int (1 : Int32)), .val (.int c0), .val (.int c1), .val (.int c2), .val (.ref b71), .val (.ref b88), .unset] [(.int (0 : Int32))])
        refine Go.of (fun _ => XS.istore H110.here hx rfl (hb hby at_161) rfl (l' := #[.val (.int p0), .val (.int p1), .val (.int p2), .val (.int p3), .val (.int (1 : Int32)), .val (.int c0), .val (.int c1), .val (.int c2), .val (.ref b71), .val (.ref b88), .val (.int (0 : Int32))]) rfl) ?_
        show Go p e below _ T109 (mkF m 163 #[.val (.int p0), .val (.int p1), .val (.int p2), .val (.int p3), .val (.int (1 : Int32)), .val (.int c0), .val (.int c1), .val (.int c2), .val (.ref b71), .val (.ref b88), .val (.int (0 : Int32))] [])
        refine Go.of (fun _ => XS.aload H110.here hx rfl (hb hby at_163) rfl rfl) ?_
        show Go p e below _ T109 (mkF m 165 #[.val (.int p0), .val (.int p1), .val (.int p2), .val (.int p3), .val (.int (1 : Int32)), .val (.int c0), .val (.int c1), .val (.int c2), .val (.ref b71), .val (.ref b88), .val (.int (0 : Int32))] [(.ref b88)])
        refine own_staticW H110 hx (y := (⟨"com/example/brokerward/brokerward/rules/TopicFilter", "isValidTopicName", "(Ljava/lang/String;)Z"⟩ : MethodName)) hown (ow hw 26 rfl) (ow hw 27 rfl) (ow hw 28 rfl) (ow hw 29 rfl) (by decide) (W := 0) (rm_ivt l Z a0 hw hE b88 ([c0] : List Int32) zc fm h101 H110.old SS (by simp) SC hzc SF hfm SA SHB SLB) (fun _ hq => nomatch hq) (by decide) (by decide) rfl (by rw [hml]; rfl) (argsL := [(.ref b88)]) (rest := []) rfl (lenOf pd_16 rfl) rfl (by show 2 * 0 + _ ≤ _; exact Nat.le_of_eq rfl) (hb hby at_165) (by decide) (by decide) fun T118 h120 v122 H119 hs123 q121 => ?_
        obtain ⟨ve125, e124⟩ := q121
        subst e124
        subst ve125
        show Go p e below _ T118 (mkF m 168 #[.val (.int p0), .val (.int p1), .val (.int p2), .val (.int p3), .val (.int (1 : Int32)), .val (.int c0), .val (.int c1), .val (.int c2), .val (.ref b71), .val (.ref b88), .val (.int (0 : Int32))] [(.int (if own_vt ([c0] : List Int32) then 1 else 0))])
        rw [if_neg (show ¬ own_vt ([c0] : List Int32) from (own_vtF (List.mem_of_getElem? (i := 0) rfl) hq117))]
        show Go p e below _ T118 (mkF m 168 #[.val (.int p0), .val (.int p1), .val (.int p2), .val (.int p3), .val (.int (1 : Int32)), .val (.int c0), .val (.int c1), .val (.int c2), .val (.ref b71), .val (.ref b88), .val (.int (0 : Int32))] [(.int (0 : Int32))])
        refine Go.of (fun _ => XS.iload H119.here hx rfl (hb hby at_168) rfl) ?_
        show Go p e below _ T118 (mkF m 170 #[.val (.int p0), .val (.int p1), .val (.int p2), .val (.int p3), .val (.int (1 : Int32)), .val (.int c0), .val (.int c1), .val (.int c2), .val (.ref b71), .val (.ref b88), .val (.int (0 : Int32))] [(.int (0 : Int32)), (.int (0 : Int32))])
        refine Go.of (fun _ => XS.icmpNo H119.here hx rfl (hb hby at_170) rfl (teq (by decide : (0 : Int32) = (0 : Int32))).2) ?_
        show Go p e below _ T118 (mkF m 173 #[.val (.int p0), .val (.int p1), .val (.int p2), .val (.int p3), .val (.int (1 : Int32)), .val (.int c0), .val (.int c1), .val (.int c2), .val (.ref b71), .val (.ref b88), .val (.int (0 : Int32))] [])
        refine Go.of (fun _ => XS.iconst H119.here hx rfl (hb hby at_173)) ?_
        show Go p e below _ T118 (mkF m 174 #[.val (.int p0), .val (.int p1), .val (.int p2), .val (.int p3), .val (.int (1 : Int32)), .val (.int c0), .val (.int c1), .val (.int c2), .val (.ref b71), .val (.ref b88), .val (.int (0 : Int32))] [(.int (1 : Int32))])
        refine Go.of (fun _ => XS.goto H119.here hx rfl (pc0 := 174) (pc' := 178) rfl (hb hby at_174) (by decide) (by decide)) ?_
        show Go p e below _ T118 (mkF m 178 #[.val (.int p0), .val (.int p1), .val (.int p2), .val (.int p3), .val (.int (1 : Int32)), .val (.int c0), .val (.int c1), .val (.int c2), .val (.ref b71), .val (.ref b88), .val (.int (0 : Int32))] [(.int (1 : Int32))])
        exact own_retN H119 hx hlk (t := .boolean) hret (by simp) (hb hby at_178) all0 rfl (by decide) (by decide)
      · skip
        rw [if_neg hq117]
        show Go p e below _ T109 (mkF m 125 #[.val (.int p0), .val (.int p1), .val (.int p2), .val (.int p3), .val (.int (1 : Int32)), .val (.int c0), .val (.int c1), .val (.int c2), .val (.ref b71), .val (.ref b88), .unset] [(.int (0 : Int32))])
        refine Go.of (fun _ => XS.ifNo H110.here hx rfl (hb hby at_125) rfl ((if0 _ _).trans (teq (by decide : (0 : Int32) = (0 : Int32))).2)) ?_
        show Go p e below _ T109 (mkF m 128 #[.val (.int p0), .val (.int p1), .val (.int p2), .val (.int p3), .val (.int (1 : Int32)), .val (.int c0), .val (.int c1), .val (.int c2), .val (.ref b71), .val (.ref b88), .unset] [])
        refine Go.of (fun _ => XS.iload H110.here hx rfl (hb hby at_128) rfl) ?_
        show Go p e below _ T109 (mkF m 130 #[.val (.int p0), .val (.int p1), .val (.int p2), .val (.int p3), .val (.int (1 : Int32)), .val (.int c0), .val (.int c1), .val (.int c2), .val (.ref b71), .val (.ref b88), .unset] [(.int (1 : Int32))])
        refine Go.of (fun _ => XS.iconst H110.here hx rfl (hb hby at_130)) ?_
        show Go p e below _ T109 (mkF m 131 #[.val (.int p0), .val (.int p1), .val (.int p2), .val (.int p3), .val (.int (1 : Int32)), .val (.int c0), .val (.int c1), .val (.int c2), .val (.ref b71), .val (.ref b88), .unset] [(.int (1 : Int32)), (.int (1 : Int32))])
        refine Go.of (fun _ => XS.icmpYes H110.here hx rfl (pc0 := 131) (pc' := 142) rfl (hb hby at_131) rfl (flt (by decide : ¬ ((1 : Int32) < (1 : Int32)))).2.2.2 (by decide) (by decide)) ?_
        show Go p e below _ T109 (mkF m 142 #[.val (.int p0), .val (.int p1), .val (.int p2), .val (.int p3), .val (.int (1 : Int32)), .val (.int c0), .val (.int c1), .val (.int c2), .val (.ref b71), .val (.ref b88), .unset] [])
        refine Go.of (fun _ => XS.iload H110.here hx rfl (hb hby at_142) rfl) ?_
        show Go p e below _ T109 (mkF m 144 #[.val (.int p0), .val (.int p1), .val (.int p2), .val (.int p3), .val (.int (1 : Int32)), .val (.int c0), .val (.int c1), .val (.int c2), .val (.ref b71), .val (.ref b88), .unset] [(.int (1 : Int32))])
        refine Go.of (fun _ => XS.iconst H110.here hx rfl (hb hby at_144)) ?_
        show Go p e below _ T109 (mkF m 145 #[.val (.int p0), .val (.int p1), .val (.int p2), .val (.int p3), .val (.int (1 : Int32)), .val (.int c0), .val (.int c1), .val (.int c2), .val (.ref b71), .val (.ref b88), .unset] [(.int (2 : Int32)), (.int (1 : Int32))])
        refine Go.of (fun _ => XS.icmpYes H110.here hx rfl (pc0 := 145) (pc' := 156) rfl (hb hby at_145) rfl (flt (by decide : ¬ ((2 : Int32) < (1 : Int32)))).2.2.2 (by decide) (by decide)) ?_
        show Go p e below _ T109 (mkF m 156 #[.val (.int p0), .val (.int p1), .val (.int p2), .val (.int p3), .val (.int (1 : Int32)), .val (.int c0), .val (.int c1), .val (.int c2), .val (.ref b71), .val (.ref b88), .unset] [])
        refine Go.of (fun _ => XS.iconst H110.here hx rfl (hb hby at_156)) ?_
        show Go p e below _ T109 (mkF m 157 #[.val (.int p0), .val (.int p1), .val (.int p2), .val (.int p3), .val (.int (1 : Int32)), .val (.int c0), .val (.int c1), .val (.int c2), .val (.ref b71), .val (.ref b88), .unset] [(.int (1 : Int32))])
        refine Go.of (fun _ => XS.goto H110.here hx rfl (pc0 := 157) (pc' := 161) rfl (hb hby at_157) (by decide) (by decide)) ?_
        show Go p e below _ T109 (mkF m 161 #[.val (.int p0), .val (.int p1), .val (.int p2), .val (.int p3), .val (.int (1 : Int32)), .val (.int c0), .val (.int c1), .val (.int c2), .val (.ref b71), .val (.ref b88), .unset] [(.int (1 : Int32))])
        refine Go.of (fun _ => XS.istore H110.here hx rfl (hb hby at_161) rfl (l' := #[.val (.int p0), .val (.int p1), .val (.int p2), .val (.int p3), .val (.int (1 : Int32)), .val (.int c0), .val (.int c1), .val (.int c2), .val (.ref b71), .val (.ref b88), .val (.int (1 : Int32))]) rfl) ?_
        show Go p e below _ T109 (mkF m 163 #[.val (.int p0), .val (.int p1), .val (.int p2), .val (.int p3), .val (.int (1 : Int32)), .val (.int c0), .val (.int c1), .val (.int c2), .val (.ref b71), .val (.ref b88), .val (.int (1 : Int32))] [])
        refine Go.of (fun _ => XS.aload H110.here hx rfl (hb hby at_163) rfl rfl) ?_
        show Go p e below _ T109 (mkF m 165 #[.val (.int p0), .val (.int p1), .val (.int p2), .val (.int p3), .val (.int (1 : Int32)), .val (.int c0), .val (.int c1), .val (.int c2), .val (.ref b71), .val (.ref b88), .val (.int (1 : Int32))] [(.ref b88)])
        refine own_staticW H110 hx (y := (⟨"com/example/brokerward/brokerward/rules/TopicFilter", "isValidTopicName", "(Ljava/lang/String;)Z"⟩ : MethodName)) hown (ow hw 26 rfl) (ow hw 27 rfl) (ow hw 28 rfl) (ow hw 29 rfl) (by decide) (W := 0) (rm_ivt l Z a0 hw hE b88 ([c0] : List Int32) zc fm h101 H110.old SS (by simp) SC hzc SF hfm SA SHB SLB) (fun _ hq => nomatch hq) (by decide) (by decide) rfl (by rw [hml]; rfl) (argsL := [(.ref b88)]) (rest := []) rfl (lenOf pd_16 rfl) rfl (by show 2 * 0 + _ ≤ _; exact Nat.le_of_eq rfl) (hb hby at_165) (by decide) (by decide) fun T126 h128 v130 H127 hs131 q129 => ?_
        obtain ⟨ve133, e132⟩ := q129
        subst e132
        subst ve133
        show Go p e below _ T126 (mkF m 168 #[.val (.int p0), .val (.int p1), .val (.int p2), .val (.int p3), .val (.int (1 : Int32)), .val (.int c0), .val (.int c1), .val (.int c2), .val (.ref b71), .val (.ref b88), .val (.int (1 : Int32))] [(.int (if own_vt ([c0] : List Int32) then 1 else 0))])
        rw [if_pos (show own_vt ([c0] : List Int32) from (own_vtT (by simp) (allC hq117 all0c)))]
        show Go p e below _ T126 (mkF m 168 #[.val (.int p0), .val (.int p1), .val (.int p2), .val (.int p3), .val (.int (1 : Int32)), .val (.int c0), .val (.int c1), .val (.int c2), .val (.ref b71), .val (.ref b88), .val (.int (1 : Int32))] [(.int (1 : Int32))])
        refine Go.of (fun _ => XS.iload H127.here hx rfl (hb hby at_168) rfl) ?_
        show Go p e below _ T126 (mkF m 170 #[.val (.int p0), .val (.int p1), .val (.int p2), .val (.int p3), .val (.int (1 : Int32)), .val (.int c0), .val (.int c1), .val (.int c2), .val (.ref b71), .val (.ref b88), .val (.int (1 : Int32))] [(.int (1 : Int32)), (.int (1 : Int32))])
        refine Go.of (fun _ => XS.icmpNo H127.here hx rfl (hb hby at_170) rfl (teq (by decide : (1 : Int32) = (1 : Int32))).2) ?_
        show Go p e below _ T126 (mkF m 173 #[.val (.int p0), .val (.int p1), .val (.int p2), .val (.int p3), .val (.int (1 : Int32)), .val (.int c0), .val (.int c1), .val (.int c2), .val (.ref b71), .val (.ref b88), .val (.int (1 : Int32))] [])
        refine Go.of (fun _ => XS.iconst H127.here hx rfl (hb hby at_173)) ?_
        show Go p e below _ T126 (mkF m 174 #[.val (.int p0), .val (.int p1), .val (.int p2), .val (.int p3), .val (.int (1 : Int32)), .val (.int c0), .val (.int c1), .val (.int c2), .val (.ref b71), .val (.ref b88), .val (.int (1 : Int32))] [(.int (1 : Int32))])
        refine Go.of (fun _ => XS.goto H127.here hx rfl (pc0 := 174) (pc' := 178) rfl (hb hby at_174) (by decide) (by decide)) ?_
        show Go p e below _ T126 (mkF m 178 #[.val (.int p0), .val (.int p1), .val (.int p2), .val (.int p3), .val (.int (1 : Int32)), .val (.int c0), .val (.int c1), .val (.int c2), .val (.ref b71), .val (.ref b88), .val (.int (1 : Int32))] [(.int (1 : Int32))])
        exact own_retN H127 hx hlk (t := .boolean) hret (by simp) (hb hby at_178) all0 rfl (by decide) (by decide)
    · skip
      show Go p e below _ T17 (mkF m 23 #[.val (.int p0), .val (.int p1), .val (.int p2), .val (.int p3), .val (.int (2 : Int32)), .val (.int c0), .val (.int c1), .val (.int c2), .unset, .unset, .unset] [])
      refine Go.of (fun _ => XS.iload H18.here hx rfl (hb hby at_23) rfl) ?_
      show Go p e below _ T17 (mkF m 25 #[.val (.int p0), .val (.int p1), .val (.int p2), .val (.int p3), .val (.int (2 : Int32)), .val (.int c0), .val (.int c1), .val (.int c2), .unset, .unset, .unset] [(.int (2 : Int32))])
      refine Go.of (fun _ => XS.ifYes H18.here hx rfl (pc0 := 25) (pc' := 36) rfl (hb hby at_25) rfl ((if0 _ _).trans (feq (by decide : ¬ ((2 : Int32) = (0 : Int32)))).2) (by decide) (by decide)) ?_
      show Go p e below _ T17 (mkF m 36 #[.val (.int p0), .val (.int p1), .val (.int p2), .val (.int p3), .val (.int (2 : Int32)), .val (.int c0), .val (.int c1), .val (.int c2), .unset, .unset, .unset] [])
      refine Go.of (fun _ => XS.iload H18.here hx rfl (hb hby at_36) rfl) ?_
      show Go p e below _ T17 (mkF m 38 #[.val (.int p0), .val (.int p1), .val (.int p2), .val (.int p3), .val (.int (2 : Int32)), .val (.int c0), .val (.int c1), .val (.int c2), .unset, .unset, .unset] [(.int (2 : Int32))])
      refine Go.of (fun _ => XS.iconst H18.here hx rfl (hb hby at_38)) ?_
      show Go p e below _ T17 (mkF m 39 #[.val (.int p0), .val (.int p1), .val (.int p2), .val (.int p3), .val (.int (2 : Int32)), .val (.int c0), .val (.int c1), .val (.int c2), .unset, .unset, .unset] [(.int (1 : Int32)), (.int (2 : Int32))])
      refine Go.of (fun _ => XS.icmpYes H18.here hx rfl (pc0 := 39) (pc' := 55) rfl (hb hby at_39) rfl (feq (by decide : ¬ ((2 : Int32) = (1 : Int32)))).2 (by decide) (by decide)) ?_
      show Go p e below _ T17 (mkF m 55 #[.val (.int p0), .val (.int p1), .val (.int p2), .val (.int p3), .val (.int (2 : Int32)), .val (.int c0), .val (.int c1), .val (.int c2), .unset, .unset, .unset] [])
      refine Go.of (fun _ => XS.iload H18.here hx rfl (hb hby at_55) rfl) ?_
      show Go p e below _ T17 (mkF m 57 #[.val (.int p0), .val (.int p1), .val (.int p2), .val (.int p3), .val (.int (2 : Int32)), .val (.int c0), .val (.int c1), .val (.int c2), .unset, .unset, .unset] [(.int (2 : Int32))])
      refine Go.of (fun _ => XS.iconst H18.here hx rfl (hb hby at_57)) ?_
      show Go p e below _ T17 (mkF m 58 #[.val (.int p0), .val (.int p1), .val (.int p2), .val (.int p3), .val (.int (2 : Int32)), .val (.int c0), .val (.int c1), .val (.int c2), .unset, .unset, .unset] [(.int (2 : Int32)), (.int (2 : Int32))])
      refine Go.of (fun _ => XS.icmpNo H18.here hx rfl (hb hby at_58) rfl (teq (by decide : (2 : Int32) = (2 : Int32))).2) ?_
      show Go p e below _ T17 (mkF m 61 #[.val (.int p0), .val (.int p1), .val (.int p2), .val (.int p3), .val (.int (2 : Int32)), .val (.int c0), .val (.int c1), .val (.int c2), .unset, .unset, .unset] [])
      refine Go.of (fun _ => XS.iconst H18.here hx rfl (hb hby at_61)) ?_
      show Go p e below _ T17 (mkF m 62 #[.val (.int p0), .val (.int p1), .val (.int p2), .val (.int p3), .val (.int (2 : Int32)), .val (.int c0), .val (.int c1), .val (.int c2), .unset, .unset, .unset] [(.int (2 : Int32))])
      refine own_newP H18 hx (ow hw 4 rfl) rfl (hb hby at_62) rfl (by decide) (cap := 2) (by decide) (by decide) (by decide) (by decide) fun T134 h136 b137 kA140 g138 H135 E139 V141 => ?_
      have fr142 : Z.heap.size ≤ b137 := by rw [g138]; exact H18.old.1
      have V143 : Arv Z h136 b137 kA140 .char (2 : Int32) [(.int (0 : Int32)), (.int (0 : Int32))] (.int (0 : Int32)) := V141.pad (pad_rep [] (.int (0 : Int32)) 2)
      show Go p e below _ T134 (mkF m 64 #[.val (.int p0), .val (.int p1), .val (.int p2), .val (.int p3), .val (.int (2 : Int32)), .val (.int c0), .val (.int c1), .val (.int c2), .unset, .unset, .unset] [(.ref b137)])
      refine Go.of (fun _ => XS.dup H135.here hx rfl (hb hby at_64) rfl rfl) ?_
      show Go p e below _ T134 (mkF m 65 #[.val (.int p0), .val (.int p1), .val (.int p2), .val (.int p3), .val (.int (2 : Int32)), .val (.int c0), .val (.int c1), .val (.int c2), .unset, .unset, .unset] [(.ref b137), (.ref b137)])
      refine Go.of (fun _ => XS.iconst H135.here hx rfl (hb hby at_65)) ?_
      show Go p e below _ T134 (mkF m 66 #[.val (.int p0), .val (.int p1), .val (.int p2), .val (.int p3), .val (.int (2 : Int32)), .val (.int c0), .val (.int c1), .val (.int c2), .unset, .unset, .unset] [(.int (0 : Int32)), (.ref b137), (.ref b137)])
      refine Go.of (fun _ => XS.iload H135.here hx rfl (hb hby at_66) rfl) ?_
      show Go p e below _ T134 (mkF m 68 #[.val (.int p0), .val (.int p1), .val (.int p2), .val (.int p3), .val (.int (2 : Int32)), .val (.int c0), .val (.int c1), .val (.int c2), .unset, .unset, .unset] [(.int c0), (.int (0 : Int32)), (.ref b137), (.ref b137)])
      refine own_castore H135 hx V143 ⟨by decide, by decide⟩ 0 (by decide) (Nat.le_of_ble_eq_true rfl) fr142 rfl rfl (hb hby at_68) fun T144 h146 H145 W147 V148 => ?_
      have V150 : Arv Z h146 b137 kA140 .char (2 : Int32) [(.int (nar .char c0)), (.int (0 : Int32))] (.int (0 : Int32)) := V148
      show Go p e below _ T144 (mkF m 69 #[.val (.int p0), .val (.int p1), .val (.int p2), .val (.int p3), .val (.int (2 : Int32)), .val (.int c0), .val (.int c1), .val (.int c2), .unset, .unset, .unset] [(.ref b137)])
      refine Go.of (fun _ => XS.dup H145.here hx rfl (hb hby at_69) rfl rfl) ?_
      show Go p e below _ T144 (mkF m 70 #[.val (.int p0), .val (.int p1), .val (.int p2), .val (.int p3), .val (.int (2 : Int32)), .val (.int c0), .val (.int c1), .val (.int c2), .unset, .unset, .unset] [(.ref b137), (.ref b137)])
      refine Go.of (fun _ => XS.iconst H145.here hx rfl (hb hby at_70)) ?_
      show Go p e below _ T144 (mkF m 71 #[.val (.int p0), .val (.int p1), .val (.int p2), .val (.int p3), .val (.int (2 : Int32)), .val (.int c0), .val (.int c1), .val (.int c2), .unset, .unset, .unset] [(.int (1 : Int32)), (.ref b137), (.ref b137)])
      refine Go.of (fun _ => XS.iload H145.here hx rfl (hb hby at_71) rfl) ?_
      show Go p e below _ T144 (mkF m 73 #[.val (.int p0), .val (.int p1), .val (.int p2), .val (.int p3), .val (.int (2 : Int32)), .val (.int c0), .val (.int c1), .val (.int c2), .unset, .unset, .unset] [(.int c1), (.int (1 : Int32)), (.ref b137), (.ref b137)])
      refine own_castore H145 hx V150 ⟨by decide, by decide⟩ 1 (by decide) (Nat.le_of_ble_eq_true rfl) fr142 rfl rfl (hb hby at_73) fun T151 h153 H152 W154 V155 => ?_
      have V157 : Arv Z h153 b137 kA140 .char (2 : Int32) [(.int (nar .char c0)), (.int (nar .char c1))] (.int (0 : Int32)) := V155
      show Go p e below _ T151 (mkF m 74 #[.val (.int p0), .val (.int p1), .val (.int p2), .val (.int p3), .val (.int (2 : Int32)), .val (.int c0), .val (.int c1), .val (.int c2), .unset, .unset, .unset] [(.ref b137)])
      refine Go.of (fun _ => XS.astore H152.here hx rfl (hb hby at_74) rfl rfl (l' := #[.val (.int p0), .val (.int p1), .val (.int p2), .val (.int p3), .val (.int (2 : Int32)), .val (.int c0), .val (.int c1), .val (.int c2), .val (.ref b137), .unset, .unset]) rfl) ?_
      show Go p e below _ T151 (mkF m 76 #[.val (.int p0), .val (.int p1), .val (.int p2), .val (.int p3), .val (.int (2 : Int32)), .val (.int c0), .val (.int c1), .val (.int c2), .val (.ref b137), .unset, .unset] [])
      refine Go.of (fun _ => XS.goto H152.here hx rfl (pc0 := 76) (pc' := 99) rfl (hb hby at_76) (by decide) (by decide)) ?_
      show Go p e below _ T151 (mkF m 99 #[.val (.int p0), .val (.int p1), .val (.int p2), .val (.int p3), .val (.int (2 : Int32)), .val (.int c0), .val (.int c1), .val (.int c2), .val (.ref b137), .unset, .unset] [])
      refine own_new H152 hx hown (ow hw 5 rfl) (ow hw 6 rfl) (ow hw 7 rfl) rfl (hb hby at_99) (by decide) (by decide) fun T158 h160 b161 g162 H159 E163 A164 D165 => ?_
      have ne166 : b137 ≠ b161 := by rw [g162]; exact Nat.ne_of_lt V157.lt
      have fr167 : Z.heap.size ≤ b161 := by rw [g162]; exact H152.old.1
      have f168 := V157.ext E163
      have f169 : Fld Z h160 b161 "java/lang/String" "value" "[B" .null := D165 (Or.inr (ow hw 20 rfl)) (ty := (.array .byte)) (by decide)
      have f170 : Fld Z h160 b161 "java/lang/String" "coder" "B" (.int (0 : Int32)) := D165 (Or.inr (ow hw 21 rfl)) (ty := .byte) (by decide)
      show Go p e below _ T158 (mkF m 102 #[.val (.int p0), .val (.int p1), .val (.int p2), .val (.int p3), .val (.int (2 : Int32)), .val (.int c0), .val (.int c1), .val (.int c2), .val (.ref b137), .unset, .unset] [(.ref b161)])
      refine Go.of (fun _ => XS.dup H159.here hx rfl (hb hby at_102) rfl rfl) ?_
      show Go p e below _ T158 (mkF m 103 #[.val (.int p0), .val (.int p1), .val (.int p2), .val (.int p3), .val (.int (2 : Int32)), .val (.int c0), .val (.int c1), .val (.int c2), .val (.ref b137), .unset, .unset] [(.ref b161), (.ref b161)])
      refine Go.of (fun _ => XS.aload H159.here hx rfl (hb hby at_103) rfl rfl) ?_
      show Go p e below _ T158 (mkF m 105 #[.val (.int p0), .val (.int p1), .val (.int p2), .val (.int p3), .val (.int (2 : Int32)), .val (.int c0), .val (.int c1), .val (.int c2), .val (.ref b137), .unset, .unset] [(.ref b137), (.ref b161), (.ref b161)])
      have hV171 : Arv Z h160 b137 kA140 .char (Int32.ofNat 2) (([c0, c1] : List Int32).map Value.int) (.int (0 : Int32)) := by have := f168; rw [own_narc16 hc0, own_narc16 hc1] at this; exact this
      refine own_specialW H159 hx (y := (⟨"java/lang/String", "<init>", "([C)V"⟩ : MethodName)) rfl hown (ow hw 8 rfl) (ow hw 9 rfl) (ow hw 7 rfl) (ow hw 10 rfl) (by decide) (W := 1) (rm_s1 l Z a0 hw hE b161 b137 kA140 2 ([c0, c1] : List Int32) (.int (0 : Int32)) zc h160 H159.old A164 f169 f170 fr167 ne166 hV171 rfl (by decide) (allC hc0 (allC hc1 all0c)) SC hzc SA SHB SLB) (allS (List.mem_of_getElem? (i := 0) rfl) all0) (by decide) (by decide) rfl (by rw [hml]; rfl) (a := b161) (argsL := [(.ref b137)]) (rest := [(.ref b161)]) rfl (lenOf pd_18 rfl) rfl (by show 2 * 0 + _ ≤ _; exact Nat.le_of_eq rfl) (hb hby at_105) (by decide) (by decide) fun T172 h174 v176 H173 hs177 q175 => ?_
      obtain ⟨rfl, KK, SS⟩ := q175
      have f178 := f168.keep KK (ninS ne166 nin0)
      have f179 := A164.keep KK
      show Go p e below _ T172 (mkF m 108 #[.val (.int p0), .val (.int p1), .val (.int p2), .val (.int p3), .val (.int (2 : Int32)), .val (.int c0), .val (.int c1), .val (.int c2), .val (.ref b137), .unset, .unset] [(.ref b161)])
      refine Go.of (fun _ => XS.astore H173.here hx rfl (hb hby at_108) rfl rfl (l' := #[.val (.int p0), .val (.int p1), .val (.int p2), .val (.int p3), .val (.int (2 : Int32)), .val (.int c0), .val (.int c1), .val (.int c2), .val (.ref b137), .val (.ref b161), .unset]) rfl) ?_
      show Go p e below _ T172 (mkF m 110 #[.val (.int p0), .val (.int p1), .val (.int p2), .val (.int p3), .val (.int (2 : Int32)), .val (.int c0), .val (.int c1), .val (.int c2), .val (.ref b137), .val (.ref b161), .unset] [])
      refine Go.of (fun _ => XS.iload H173.here hx rfl (hb hby at_110) rfl) ?_
      show Go p e below _ T172 (mkF m 112 #[.val (.int p0), .val (.int p1), .val (.int p2), .val (.int p3), .val (.int (2 : Int32)), .val (.int c0), .val (.int c1), .val (.int c2), .val (.ref b137), .val (.ref b161), .unset] [(.int (2 : Int32))])
      refine Go.of (fun _ => XS.ifNo H173.here hx rfl (hb hby at_112) rfl ((if0 _ _).trans (tlt (by decide : (0 : Int32) < (2 : Int32))).2.2.2)) ?_
      show Go p e below _ T172 (mkF m 115 #[.val (.int p0), .val (.int p1), .val (.int p2), .val (.int p3), .val (.int (2 : Int32)), .val (.int c0), .val (.int c1), .val (.int c2), .val (.ref b137), .val (.ref b161), .unset] [])
      refine Go.of (fun _ => XS.iload H173.here hx rfl (hb hby at_115) rfl) ?_
      show Go p e below _ T172 (mkF m 117 #[.val (.int p0), .val (.int p1), .val (.int p2), .val (.int p3), .val (.int (2 : Int32)), .val (.int c0), .val (.int c1), .val (.int c2), .val (.ref b137), .val (.ref b161), .unset] [(.int (2 : Int32))])
      refine Go.of (fun _ => XS.ifNo H173.here hx rfl (hb hby at_117) rfl ((if0 _ _).trans (tlt (by decide : (0 : Int32) < (2 : Int32))).2.2.2)) ?_
      show Go p e below _ T172 (mkF m 120 #[.val (.int p0), .val (.int p1), .val (.int p2), .val (.int p3), .val (.int (2 : Int32)), .val (.int c0), .val (.int c1), .val (.int c2), .val (.ref b137), .val (.ref b161), .unset] [])
      refine Go.of (fun _ => XS.iload H173.here hx rfl (hb hby at_120) rfl) ?_
      show Go p e below _ T172 (mkF m 122 #[.val (.int p0), .val (.int p1), .val (.int p2), .val (.int p3), .val (.int (2 : Int32)), .val (.int c0), .val (.int c1), .val (.int c2), .val (.ref b137), .val (.ref b161), .unset] [(.int c0)])
      refine own_staticW H173 hx (y := (⟨"com/example/brokerward/brokerward/rules/TopicFilterIsValidTopicNamePinLaw", "bad", "(C)Z"⟩ : MethodName)) hown (ow hw 46 rfl) (ow hw 47 rfl) (ow hw 2 rfl) (ow hw 48 rfl) (by decide) (W := 0) (rm_bad l Z a0 hw hE c0 h174 H173.old ) (fun _ hq => nomatch hq) (by decide) (by decide) rfl (by rw [hml]; rfl) (argsL := [(.int c0)]) (rest := []) rfl (lenOf pd_19 rfl) rfl (by show 2 * 0 + _ ≤ _; exact Nat.le_of_eq rfl) (hb hby at_122) (by decide) (by decide) fun T182 h184 v186 H183 hs187 q185 => ?_
      obtain ⟨ve189, e188⟩ := q185
      subst e188
      subst ve189
      show Go p e below _ T182 (mkF m 125 #[.val (.int p0), .val (.int p1), .val (.int p2), .val (.int p3), .val (.int (2 : Int32)), .val (.int c0), .val (.int c1), .val (.int c2), .val (.ref b137), .val (.ref b161), .unset] [(.int (if own_bd c0 then 1 else 0))])
      by_cases hq190 : own_bd c0
      · skip
        rw [if_pos hq190]
        show Go p e below _ T182 (mkF m 125 #[.val (.int p0), .val (.int p1), .val (.int p2), .val (.int p3), .val (.int (2 : Int32)), .val (.int c0), .val (.int c1), .val (.int c2), .val (.ref b137), .val (.ref b161), .unset] [(.int (1 : Int32))])
        refine Go.of (fun _ => XS.ifYes H183.here hx rfl (pc0 := 125) (pc' := 160) rfl (hb hby at_125) rfl ((if0 _ _).trans (feq (by decide : ¬ ((1 : Int32) = (0 : Int32)))).2) (by decide) (by decide)) ?_
        show Go p e below _ T182 (mkF m 160 #[.val (.int p0), .val (.int p1), .val (.int p2), .val (.int p3), .val (.int (2 : Int32)), .val (.int c0), .val (.int c1), .val (.int c2), .val (.ref b137), .val (.ref b161), .unset] [])
        refine Go.of (fun _ => XS.iconst H183.here hx rfl (hb hby at_160)) ?_
        show Go p e below _ T182 (mkF m 161 #[.val (.int p0), .val (.int p1), .val (.int p2), .val (.int p3), .val (.int (2 : Int32)), .val (.int c0), .val (.int c1), .val (.int c2), .val (.ref b137), .val (.ref b161), .unset] [(.int (0 : Int32))])
        refine Go.of (fun _ => XS.istore H183.here hx rfl (hb hby at_161) rfl (l' := #[.val (.int p0), .val (.int p1), .val (.int p2), .val (.int p3), .val (.int (2 : Int32)), .val (.int c0), .val (.int c1), .val (.int c2), .val (.ref b137), .val (.ref b161), .val (.int (0 : Int32))]) rfl) ?_
        show Go p e below _ T182 (mkF m 163 #[.val (.int p0), .val (.int p1), .val (.int p2), .val (.int p3), .val (.int (2 : Int32)), .val (.int c0), .val (.int c1), .val (.int c2), .val (.ref b137), .val (.ref b161), .val (.int (0 : Int32))] [])
        refine Go.of (fun _ => XS.aload H183.here hx rfl (hb hby at_163) rfl rfl) ?_
        show Go p e below _ T182 (mkF m 165 #[.val (.int p0), .val (.int p1), .val (.int p2), .val (.int p3), .val (.int (2 : Int32)), .val (.int c0), .val (.int c1), .val (.int c2), .val (.ref b137), .val (.ref b161), .val (.int (0 : Int32))] [(.ref b161)])
        refine own_staticW H183 hx (y := (⟨"com/example/brokerward/brokerward/rules/TopicFilter", "isValidTopicName", "(Ljava/lang/String;)Z"⟩ : MethodName)) hown (ow hw 26 rfl) (ow hw 27 rfl) (ow hw 28 rfl) (ow hw 29 rfl) (by decide) (W := 0) (rm_ivt l Z a0 hw hE b161 ([c0, c1] : List Int32) zc fm h174 H183.old SS (by simp) SC hzc SF hfm SA SHB SLB) (fun _ hq => nomatch hq) (by decide) (by decide) rfl (by rw [hml]; rfl) (argsL := [(.ref b161)]) (rest := []) rfl (lenOf pd_16 rfl) rfl (by show 2 * 0 + _ ≤ _; exact Nat.le_of_eq rfl) (hb hby at_165) (by decide) (by decide) fun T191 h193 v195 H192 hs196 q194 => ?_
        obtain ⟨ve198, e197⟩ := q194
        subst e197
        subst ve198
        show Go p e below _ T191 (mkF m 168 #[.val (.int p0), .val (.int p1), .val (.int p2), .val (.int p3), .val (.int (2 : Int32)), .val (.int c0), .val (.int c1), .val (.int c2), .val (.ref b137), .val (.ref b161), .val (.int (0 : Int32))] [(.int (if own_vt ([c0, c1] : List Int32) then 1 else 0))])
        rw [if_neg (show ¬ own_vt ([c0, c1] : List Int32) from (own_vtF (List.mem_of_getElem? (i := 0) rfl) hq190))]
        show Go p e below _ T191 (mkF m 168 #[.val (.int p0), .val (.int p1), .val (.int p2), .val (.int p3), .val (.int (2 : Int32)), .val (.int c0), .val (.int c1), .val (.int c2), .val (.ref b137), .val (.ref b161), .val (.int (0 : Int32))] [(.int (0 : Int32))])
        refine Go.of (fun _ => XS.iload H192.here hx rfl (hb hby at_168) rfl) ?_
        show Go p e below _ T191 (mkF m 170 #[.val (.int p0), .val (.int p1), .val (.int p2), .val (.int p3), .val (.int (2 : Int32)), .val (.int c0), .val (.int c1), .val (.int c2), .val (.ref b137), .val (.ref b161), .val (.int (0 : Int32))] [(.int (0 : Int32)), (.int (0 : Int32))])
        refine Go.of (fun _ => XS.icmpNo H192.here hx rfl (hb hby at_170) rfl (teq (by decide : (0 : Int32) = (0 : Int32))).2) ?_
        show Go p e below _ T191 (mkF m 173 #[.val (.int p0), .val (.int p1), .val (.int p2), .val (.int p3), .val (.int (2 : Int32)), .val (.int c0), .val (.int c1), .val (.int c2), .val (.ref b137), .val (.ref b161), .val (.int (0 : Int32))] [])
        refine Go.of (fun _ => XS.iconst H192.here hx rfl (hb hby at_173)) ?_
        show Go p e below _ T191 (mkF m 174 #[.val (.int p0), .val (.int p1), .val (.int p2), .val (.int p3), .val (.int (2 : Int32)), .val (.int c0), .val (.int c1), .val (.int c2), .val (.ref b137), .val (.ref b161), .val (.int (0 : Int32))] [(.int (1 : Int32))])
        refine Go.of (fun _ => XS.goto H192.here hx rfl (pc0 := 174) (pc' := 178) rfl (hb hby at_174) (by decide) (by decide)) ?_
        show Go p e below _ T191 (mkF m 178 #[.val (.int p0), .val (.int p1), .val (.int p2), .val (.int p3), .val (.int (2 : Int32)), .val (.int c0), .val (.int c1), .val (.int c2), .val (.ref b137), .val (.ref b161), .val (.int (0 : Int32))] [(.int (1 : Int32))])
        exact own_retN H192 hx hlk (t := .boolean) hret (by simp) (hb hby at_178) all0 rfl (by decide) (by decide)
      · skip
        rw [if_neg hq190]
        show Go p e below _ T182 (mkF m 125 #[.val (.int p0), .val (.int p1), .val (.int p2), .val (.int p3), .val (.int (2 : Int32)), .val (.int c0), .val (.int c1), .val (.int c2), .val (.ref b137), .val (.ref b161), .unset] [(.int (0 : Int32))])
        refine Go.of (fun _ => XS.ifNo H183.here hx rfl (hb hby at_125) rfl ((if0 _ _).trans (teq (by decide : (0 : Int32) = (0 : Int32))).2)) ?_
        show Go p e below _ T182 (mkF m 128 #[.val (.int p0), .val (.int p1), .val (.int p2), .val (.int p3), .val (.int (2 : Int32)), .val (.int c0), .val (.int c1), .val (.int c2), .val (.ref b137), .val (.ref b161), .unset] [])
        refine Go.of (fun _ => XS.iload H183.here hx rfl (hb hby at_128) rfl) ?_
        show Go p e below _ T182 (mkF m 130 #[.val (.int p0), .val (.int p1), .val (.int p2), .val (.int p3), .val (.int (2 : Int32)), .val (.int c0), .val (.int c1), .val (.int c2), .val (.ref b137), .val (.ref b161), .unset] [(.int (2 : Int32))])
        refine Go.of (fun _ => XS.iconst H183.here hx rfl (hb hby at_130)) ?_
        show Go p e below _ T182 (mkF m 131 #[.val (.int p0), .val (.int p1), .val (.int p2), .val (.int p3), .val (.int (2 : Int32)), .val (.int c0), .val (.int c1), .val (.int c2), .val (.ref b137), .val (.ref b161), .unset] [(.int (1 : Int32)), (.int (2 : Int32))])
        refine Go.of (fun _ => XS.icmpNo H183.here hx rfl (hb hby at_131) rfl (tlt (by decide : (1 : Int32) < (2 : Int32))).2.2.2) ?_
        show Go p e below _ T182 (mkF m 134 #[.val (.int p0), .val (.int p1), .val (.int p2), .val (.int p3), .val (.int (2 : Int32)), .val (.int c0), .val (.int c1), .val (.int c2), .val (.ref b137), .val (.ref b161), .unset] [])
        refine Go.of (fun _ => XS.iload H183.here hx rfl (hb hby at_134) rfl) ?_
        show Go p e below _ T182 (mkF m 136 #[.val (.int p0), .val (.int p1), .val (.int p2), .val (.int p3), .val (.int (2 : Int32)), .val (.int c0), .val (.int c1), .val (.int c2), .val (.ref b137), .val (.ref b161), .unset] [(.int c1)])
        refine own_staticW H183 hx (y := (⟨"com/example/brokerward/brokerward/rules/TopicFilterIsValidTopicNamePinLaw", "bad", "(C)Z"⟩ : MethodName)) hown (ow hw 46 rfl) (ow hw 47 rfl) (ow hw 2 rfl) (ow hw 48 rfl) (by decide) (W := 0) (rm_bad l Z a0 hw hE c1 h174 H183.old ) (fun _ hq => nomatch hq) (by decide) (by decide) rfl (by rw [hml]; rfl) (argsL := [(.int c1)]) (rest := []) rfl (lenOf pd_19 rfl) rfl (by show 2 * 0 + _ ≤ _; exact Nat.le_of_eq rfl) (hb hby at_136) (by decide) (by decide) fun T199 h201 v203 H200 hs204 q202 => ?_
        obtain ⟨ve206, e205⟩ := q202
        subst e205
        subst ve206
        show Go p e below _ T199 (mkF m 139 #[.val (.int p0), .val (.int p1), .val (.int p2), .val (.int p3), .val (.int (2 : Int32)), .val (.int c0), .val (.int c1), .val (.int c2), .val (.ref b137), .val (.ref b161), .unset] [(.int (if own_bd c1 then 1 else 0))])
        by_cases hq207 : own_bd c1
        · skip
          rw [if_pos hq207]
          show Go p e below _ T199 (mkF m 139 #[.val (.int p0), .val (.int p1), .val (.int p2), .val (.int p3), .val (.int (2 : Int32)), .val (.int c0), .val (.int c1), .val (.int c2), .val (.ref b137), .val (.ref b161), .unset] [(.int (1 : Int32))])
          refine Go.of (fun _ => XS.ifYes H200.here hx rfl (pc0 := 139) (pc' := 160) rfl (hb hby at_139) rfl ((if0 _ _).trans (feq (by decide : ¬ ((1 : Int32) = (0 : Int32)))).2) (by decide) (by decide)) ?_
          show Go p e below _ T199 (mkF m 160 #[.val (.int p0), .val (.int p1), .val (.int p2), .val (.int p3), .val (.int (2 : Int32)), .val (.int c0), .val (.int c1), .val (.int c2), .val (.ref b137), .val (.ref b161), .unset] [])
          refine Go.of (fun _ => XS.iconst H200.here hx rfl (hb hby at_160)) ?_
          show Go p e below _ T199 (mkF m 161 #[.val (.int p0), .val (.int p1), .val (.int p2), .val (.int p3), .val (.int (2 : Int32)), .val (.int c0), .val (.int c1), .val (.int c2), .val (.ref b137), .val (.ref b161), .unset] [(.int (0 : Int32))])
          refine Go.of (fun _ => XS.istore H200.here hx rfl (hb hby at_161) rfl (l' := #[.val (.int p0), .val (.int p1), .val (.int p2), .val (.int p3), .val (.int (2 : Int32)), .val (.int c0), .val (.int c1), .val (.int c2), .val (.ref b137), .val (.ref b161), .val (.int (0 : Int32))]) rfl) ?_
          show Go p e below _ T199 (mkF m 163 #[.val (.int p0), .val (.int p1), .val (.int p2), .val (.int p3), .val (.int (2 : Int32)), .val (.int c0), .val (.int c1), .val (.int c2), .val (.ref b137), .val (.ref b161), .val (.int (0 : Int32))] [])
          refine Go.of (fun _ => XS.aload H200.here hx rfl (hb hby at_163) rfl rfl) ?_
          show Go p e below _ T199 (mkF m 165 #[.val (.int p0), .val (.int p1), .val (.int p2), .val (.int p3), .val (.int (2 : Int32)), .val (.int c0), .val (.int c1), .val (.int c2), .val (.ref b137), .val (.ref b161), .val (.int (0 : Int32))] [(.ref b161)])
          refine own_staticW H200 hx (y := (⟨"com/example/brokerward/brokerward/rules/TopicFilter", "isValidTopicName", "(Ljava/lang/String;)Z"⟩ : MethodName)) hown (ow hw 26 rfl) (ow hw 27 rfl) (ow hw 28 rfl) (ow hw 29 rfl) (by decide) (W := 0) (rm_ivt l Z a0 hw hE b161 ([c0, c1] : List Int32) zc fm h174 H200.old SS (by simp) SC hzc SF hfm SA SHB SLB) (fun _ hq => nomatch hq) (by decide) (by decide) rfl (by rw [hml]; rfl) (argsL := [(.ref b161)]) (rest := []) rfl (lenOf pd_16 rfl) rfl (by show 2 * 0 + _ ≤ _; exact Nat.le_of_eq rfl) (hb hby at_165) (by decide) (by decide) fun T208 h210 v212 H209 hs213 q211 => ?_
          obtain ⟨ve215, e214⟩ := q211
          subst e214
          subst ve215
          show Go p e below _ T208 (mkF m 168 #[.val (.int p0), .val (.int p1), .val (.int p2), .val (.int p3), .val (.int (2 : Int32)), .val (.int c0), .val (.int c1), .val (.int c2), .val (.ref b137), .val (.ref b161), .val (.int (0 : Int32))] [(.int (if own_vt ([c0, c1] : List Int32) then 1 else 0))])
          rw [if_neg (show ¬ own_vt ([c0, c1] : List Int32) from (own_vtF (List.mem_of_getElem? (i := 1) rfl) hq207))]
          show Go p e below _ T208 (mkF m 168 #[.val (.int p0), .val (.int p1), .val (.int p2), .val (.int p3), .val (.int (2 : Int32)), .val (.int c0), .val (.int c1), .val (.int c2), .val (.ref b137), .val (.ref b161), .val (.int (0 : Int32))] [(.int (0 : Int32))])
          refine Go.of (fun _ => XS.iload H209.here hx rfl (hb hby at_168) rfl) ?_
          show Go p e below _ T208 (mkF m 170 #[.val (.int p0), .val (.int p1), .val (.int p2), .val (.int p3), .val (.int (2 : Int32)), .val (.int c0), .val (.int c1), .val (.int c2), .val (.ref b137), .val (.ref b161), .val (.int (0 : Int32))] [(.int (0 : Int32)), (.int (0 : Int32))])
          refine Go.of (fun _ => XS.icmpNo H209.here hx rfl (hb hby at_170) rfl (teq (by decide : (0 : Int32) = (0 : Int32))).2) ?_
          show Go p e below _ T208 (mkF m 173 #[.val (.int p0), .val (.int p1), .val (.int p2), .val (.int p3), .val (.int (2 : Int32)), .val (.int c0), .val (.int c1), .val (.int c2), .val (.ref b137), .val (.ref b161), .val (.int (0 : Int32))] [])
          refine Go.of (fun _ => XS.iconst H209.here hx rfl (hb hby at_173)) ?_
          show Go p e below _ T208 (mkF m 174 #[.val (.int p0), .val (.int p1), .val (.int p2), .val (.int p3), .val (.int (2 : Int32)), .val (.int c0), .val (.int c1), .val (.int c2), .val (.ref b137), .val (.ref b161), .val (.int (0 : Int32))] [(.int (1 : Int32))])
          refine Go.of (fun _ => XS.goto H209.here hx rfl (pc0 := 174) (pc' := 178) rfl (hb hby at_174) (by decide) (by decide)) ?_
          show Go p e below _ T208 (mkF m 178 #[.val (.int p0), .val (.int p1), .val (.int p2), .val (.int p3), .val (.int (2 : Int32)), .val (.int c0), .val (.int c1), .val (.int c2), .val (.ref b137), .val (.ref b161), .val (.int (0 : Int32))] [(.int (1 : Int32))])
          exact own_retN H209 hx hlk (t := .boolean) hret (by simp) (hb hby at_178) all0 rfl (by decide) (by decide)
        · skip
          rw [if_neg hq207]
          show Go p e below _ T199 (mkF m 139 #[.val (.int p0), .val (.int p1), .val (.int p2), .val (.int p3), .val (.int (2 : Int32)), .val (.int c0), .val (.int c1), .val (.int c2), .val (.ref b137), .val (.ref b161), .unset] [(.int (0 : Int32))])
          refine Go.of (fun _ => XS.ifNo H200.here hx rfl (hb hby at_139) rfl ((if0 _ _).trans (teq (by decide : (0 : Int32) = (0 : Int32))).2)) ?_
          show Go p e below _ T199 (mkF m 142 #[.val (.int p0), .val (.int p1), .val (.int p2), .val (.int p3), .val (.int (2 : Int32)), .val (.int c0), .val (.int c1), .val (.int c2), .val (.ref b137), .val (.ref b161), .unset] [])
          refine Go.of (fun _ => XS.iload H200.here hx rfl (hb hby at_142) rfl) ?_
          show Go p e below _ T199 (mkF m 144 #[.val (.int p0), .val (.int p1), .val (.int p2), .val (.int p3), .val (.int (2 : Int32)), .val (.int c0), .val (.int c1), .val (.int c2), .val (.ref b137), .val (.ref b161), .unset] [(.int (2 : Int32))])
          refine Go.of (fun _ => XS.iconst H200.here hx rfl (hb hby at_144)) ?_
          show Go p e below _ T199 (mkF m 145 #[.val (.int p0), .val (.int p1), .val (.int p2), .val (.int p3), .val (.int (2 : Int32)), .val (.int c0), .val (.int c1), .val (.int c2), .val (.ref b137), .val (.ref b161), .unset] [(.int (2 : Int32)), (.int (2 : Int32))])
          refine Go.of (fun _ => XS.icmpYes H200.here hx rfl (pc0 := 145) (pc' := 156) rfl (hb hby at_145) rfl (flt (by decide : ¬ ((2 : Int32) < (2 : Int32)))).2.2.2 (by decide) (by decide)) ?_
          show Go p e below _ T199 (mkF m 156 #[.val (.int p0), .val (.int p1), .val (.int p2), .val (.int p3), .val (.int (2 : Int32)), .val (.int c0), .val (.int c1), .val (.int c2), .val (.ref b137), .val (.ref b161), .unset] [])
          refine Go.of (fun _ => XS.iconst H200.here hx rfl (hb hby at_156)) ?_
          show Go p e below _ T199 (mkF m 157 #[.val (.int p0), .val (.int p1), .val (.int p2), .val (.int p3), .val (.int (2 : Int32)), .val (.int c0), .val (.int c1), .val (.int c2), .val (.ref b137), .val (.ref b161), .unset] [(.int (1 : Int32))])
          refine Go.of (fun _ => XS.goto H200.here hx rfl (pc0 := 157) (pc' := 161) rfl (hb hby at_157) (by decide) (by decide)) ?_
          show Go p e below _ T199 (mkF m 161 #[.val (.int p0), .val (.int p1), .val (.int p2), .val (.int p3), .val (.int (2 : Int32)), .val (.int c0), .val (.int c1), .val (.int c2), .val (.ref b137), .val (.ref b161), .unset] [(.int (1 : Int32))])
          refine Go.of (fun _ => XS.istore H200.here hx rfl (hb hby at_161) rfl (l' := #[.val (.int p0), .val (.int p1), .val (.int p2), .val (.int p3), .val (.int (2 : Int32)), .val (.int c0), .val (.int c1), .val (.int c2), .val (.ref b137), .val (.ref b161), .val (.int (1 : Int32))]) rfl) ?_
          show Go p e below _ T199 (mkF m 163 #[.val (.int p0), .val (.int p1), .val (.int p2), .val (.int p3), .val (.int (2 : Int32)), .val (.int c0), .val (.int c1), .val (.int c2), .val (.ref b137), .val (.ref b161), .val (.int (1 : Int32))] [])
          refine Go.of (fun _ => XS.aload H200.here hx rfl (hb hby at_163) rfl rfl) ?_
          show Go p e below _ T199 (mkF m 165 #[.val (.int p0), .val (.int p1), .val (.int p2), .val (.int p3), .val (.int (2 : Int32)), .val (.int c0), .val (.int c1), .val (.int c2), .val (.ref b137), .val (.ref b161), .val (.int (1 : Int32))] [(.ref b161)])
          refine own_staticW H200 hx (y := (⟨"com/example/brokerward/brokerward/rules/TopicFilter", "isValidTopicName", "(Ljava/lang/String;)Z"⟩ : MethodName)) hown (ow hw 26 rfl) (ow hw 27 rfl) (ow hw 28 rfl) (ow hw 29 rfl) (by decide) (W := 0) (rm_ivt l Z a0 hw hE b161 ([c0, c1] : List Int32) zc fm h174 H200.old SS (by simp) SC hzc SF hfm SA SHB SLB) (fun _ hq => nomatch hq) (by decide) (by decide) rfl (by rw [hml]; rfl) (argsL := [(.ref b161)]) (rest := []) rfl (lenOf pd_16 rfl) rfl (by show 2 * 0 + _ ≤ _; exact Nat.le_of_eq rfl) (hb hby at_165) (by decide) (by decide) fun T216 h218 v220 H217 hs221 q219 => ?_
          obtain ⟨ve223, e222⟩ := q219
          subst e222
          subst ve223
          show Go p e below _ T216 (mkF m 168 #[.val (.int p0), .val (.int p1), .val (.int p2), .val (.int p3), .val (.int (2 : Int32)), .val (.int c0), .val (.int c1), .val (.int c2), .val (.ref b137), .val (.ref b161), .val (.int (1 : Int32))] [(.int (if own_vt ([c0, c1] : List Int32) then 1 else 0))])
          rw [if_pos (show own_vt ([c0, c1] : List Int32) from (own_vtT (by simp) (allC hq190 (allC hq207 all0c))))]
          show Go p e below _ T216 (mkF m 168 #[.val (.int p0), .val (.int p1), .val (.int p2), .val (.int p3), .val (.int (2 : Int32)), .val (.int c0), .val (.int c1), .val (.int c2), .val (.ref b137), .val (.ref b161), .val (.int (1 : Int32))] [(.int (1 : Int32))])
          refine Go.of (fun _ => XS.iload H217.here hx rfl (hb hby at_168) rfl) ?_
          show Go p e below _ T216 (mkF m 170 #[.val (.int p0), .val (.int p1), .val (.int p2), .val (.int p3), .val (.int (2 : Int32)), .val (.int c0), .val (.int c1), .val (.int c2), .val (.ref b137), .val (.ref b161), .val (.int (1 : Int32))] [(.int (1 : Int32)), (.int (1 : Int32))])
          refine Go.of (fun _ => XS.icmpNo H217.here hx rfl (hb hby at_170) rfl (teq (by decide : (1 : Int32) = (1 : Int32))).2) ?_
          show Go p e below _ T216 (mkF m 173 #[.val (.int p0), .val (.int p1), .val (.int p2), .val (.int p3), .val (.int (2 : Int32)), .val (.int c0), .val (.int c1), .val (.int c2), .val (.ref b137), .val (.ref b161), .val (.int (1 : Int32))] [])
          refine Go.of (fun _ => XS.iconst H217.here hx rfl (hb hby at_173)) ?_
          show Go p e below _ T216 (mkF m 174 #[.val (.int p0), .val (.int p1), .val (.int p2), .val (.int p3), .val (.int (2 : Int32)), .val (.int c0), .val (.int c1), .val (.int c2), .val (.ref b137), .val (.ref b161), .val (.int (1 : Int32))] [(.int (1 : Int32))])
          refine Go.of (fun _ => XS.goto H217.here hx rfl (pc0 := 174) (pc' := 178) rfl (hb hby at_174) (by decide) (by decide)) ?_
          show Go p e below _ T216 (mkF m 178 #[.val (.int p0), .val (.int p1), .val (.int p2), .val (.int p3), .val (.int (2 : Int32)), .val (.int c0), .val (.int c1), .val (.int c2), .val (.ref b137), .val (.ref b161), .val (.int (1 : Int32))] [(.int (1 : Int32))])
          exact own_retN H217 hx hlk (t := .boolean) hret (by simp) (hb hby at_178) all0 rfl (by decide) (by decide)
    · skip
      show Go p e below _ T17 (mkF m 23 #[.val (.int p0), .val (.int p1), .val (.int p2), .val (.int p3), .val (.int (3 : Int32)), .val (.int c0), .val (.int c1), .val (.int c2), .unset, .unset, .unset] [])
      refine Go.of (fun _ => XS.iload H18.here hx rfl (hb hby at_23) rfl) ?_
      show Go p e below _ T17 (mkF m 25 #[.val (.int p0), .val (.int p1), .val (.int p2), .val (.int p3), .val (.int (3 : Int32)), .val (.int c0), .val (.int c1), .val (.int c2), .unset, .unset, .unset] [(.int (3 : Int32))])
      refine Go.of (fun _ => XS.ifYes H18.here hx rfl (pc0 := 25) (pc' := 36) rfl (hb hby at_25) rfl ((if0 _ _).trans (feq (by decide : ¬ ((3 : Int32) = (0 : Int32)))).2) (by decide) (by decide)) ?_
      show Go p e below _ T17 (mkF m 36 #[.val (.int p0), .val (.int p1), .val (.int p2), .val (.int p3), .val (.int (3 : Int32)), .val (.int c0), .val (.int c1), .val (.int c2), .unset, .unset, .unset] [])
      refine Go.of (fun _ => XS.iload H18.here hx rfl (hb hby at_36) rfl) ?_
      show Go p e below _ T17 (mkF m 38 #[.val (.int p0), .val (.int p1), .val (.int p2), .val (.int p3), .val (.int (3 : Int32)), .val (.int c0), .val (.int c1), .val (.int c2), .unset, .unset, .unset] [(.int (3 : Int32))])
      refine Go.of (fun _ => XS.iconst H18.here hx rfl (hb hby at_38)) ?_
      show Go p e below _ T17 (mkF m 39 #[.val (.int p0), .val (.int p1), .val (.int p2), .val (.int p3), .val (.int (3 : Int32)), .val (.int c0), .val (.int c1), .val (.int c2), .unset, .unset, .unset] [(.int (1 : Int32)), (.int (3 : Int32))])
      refine Go.of (fun _ => XS.icmpYes H18.here hx rfl (pc0 := 39) (pc' := 55) rfl (hb hby at_39) rfl (feq (by decide : ¬ ((3 : Int32) = (1 : Int32)))).2 (by decide) (by decide)) ?_
      show Go p e below _ T17 (mkF m 55 #[.val (.int p0), .val (.int p1), .val (.int p2), .val (.int p3), .val (.int (3 : Int32)), .val (.int c0), .val (.int c1), .val (.int c2), .unset, .unset, .unset] [])
      refine Go.of (fun _ => XS.iload H18.here hx rfl (hb hby at_55) rfl) ?_
      show Go p e below _ T17 (mkF m 57 #[.val (.int p0), .val (.int p1), .val (.int p2), .val (.int p3), .val (.int (3 : Int32)), .val (.int c0), .val (.int c1), .val (.int c2), .unset, .unset, .unset] [(.int (3 : Int32))])
      refine Go.of (fun _ => XS.iconst H18.here hx rfl (hb hby at_57)) ?_
      show Go p e below _ T17 (mkF m 58 #[.val (.int p0), .val (.int p1), .val (.int p2), .val (.int p3), .val (.int (3 : Int32)), .val (.int c0), .val (.int c1), .val (.int c2), .unset, .unset, .unset] [(.int (2 : Int32)), (.int (3 : Int32))])
      refine Go.of (fun _ => XS.icmpYes H18.here hx rfl (pc0 := 58) (pc' := 79) rfl (hb hby at_58) rfl (feq (by decide : ¬ ((3 : Int32) = (2 : Int32)))).2 (by decide) (by decide)) ?_
      show Go p e below _ T17 (mkF m 79 #[.val (.int p0), .val (.int p1), .val (.int p2), .val (.int p3), .val (.int (3 : Int32)), .val (.int c0), .val (.int c1), .val (.int c2), .unset, .unset, .unset] [])
      refine Go.of (fun _ => XS.iconst H18.here hx rfl (hb hby at_79)) ?_
      show Go p e below _ T17 (mkF m 80 #[.val (.int p0), .val (.int p1), .val (.int p2), .val (.int p3), .val (.int (3 : Int32)), .val (.int c0), .val (.int c1), .val (.int c2), .unset, .unset, .unset] [(.int (3 : Int32))])
      refine own_newP H18 hx (ow hw 4 rfl) rfl (hb hby at_80) rfl (by decide) (cap := 3) (by decide) (by decide) (by decide) (by decide) fun T224 h226 b227 kA230 g228 H225 E229 V231 => ?_
      have fr232 : Z.heap.size ≤ b227 := by rw [g228]; exact H18.old.1
      have V233 : Arv Z h226 b227 kA230 .char (3 : Int32) [(.int (0 : Int32)), (.int (0 : Int32)), (.int (0 : Int32))] (.int (0 : Int32)) := V231.pad (pad_rep [] (.int (0 : Int32)) 3)
      show Go p e below _ T224 (mkF m 82 #[.val (.int p0), .val (.int p1), .val (.int p2), .val (.int p3), .val (.int (3 : Int32)), .val (.int c0), .val (.int c1), .val (.int c2), .unset, .unset, .unset] [(.ref b227)])
      refine Go.of (fun _ => XS.dup H225.here hx rfl (hb hby at_82) rfl rfl) ?_
      show Go p e below _ T224 (mkF m 83 #[.val (.int p0), .val (.int p1), .val (.int p2), .val (.int p3), .val (.int (3 : Int32)), .val (.int c0), .val (.int c1), .val (.int c2), .unset, .unset, .unset] [(.ref b227), (.ref b227)])
      refine Go.of (fun _ => XS.iconst H225.here hx rfl (hb hby at_83)) ?_
      show Go p e below _ T224 (mkF m 84 #[.val (.int p0), .val (.int p1), .val (.int p2), .val (.int p3), .val (.int (3 : Int32)), .val (.int c0), .val (.int c1), .val (.int c2), .unset, .unset, .unset] [(.int (0 : Int32)), (.ref b227), (.ref b227)])
      refine Go.of (fun _ => XS.iload H225.here hx rfl (hb hby at_84) rfl) ?_
      show Go p e below _ T224 (mkF m 86 #[.val (.int p0), .val (.int p1), .val (.int p2), .val (.int p3), .val (.int (3 : Int32)), .val (.int c0), .val (.int c1), .val (.int c2), .unset, .unset, .unset] [(.int c0), (.int (0 : Int32)), (.ref b227), (.ref b227)])
      refine own_castore H225 hx V233 ⟨by decide, by decide⟩ 0 (by decide) (Nat.le_of_ble_eq_true rfl) fr232 rfl rfl (hb hby at_86) fun T234 h236 H235 W237 V238 => ?_
      have V240 : Arv Z h236 b227 kA230 .char (3 : Int32) [(.int (nar .char c0)), (.int (0 : Int32)), (.int (0 : Int32))] (.int (0 : Int32)) := V238
      show Go p e below _ T234 (mkF m 87 #[.val (.int p0), .val (.int p1), .val (.int p2), .val (.int p3), .val (.int (3 : Int32)), .val (.int c0), .val (.int c1), .val (.int c2), .unset, .unset, .unset] [(.ref b227)])
      refine Go.of (fun _ => XS.dup H235.here hx rfl (hb hby at_87) rfl rfl) ?_
      show Go p e below _ T234 (mkF m 88 #[.val (.int p0), .val (.int p1), .val (.int p2), .val (.int p3), .val (.int (3 : Int32)), .val (.int c0), .val (.int c1), .val (.int c2), .unset, .unset, .unset] [(.ref b227), (.ref b227)])
      refine Go.of (fun _ => XS.iconst H235.here hx rfl (hb hby at_88)) ?_
      show Go p e below _ T234 (mkF m 89 #[.val (.int p0), .val (.int p1), .val (.int p2), .val (.int p3), .val (.int (3 : Int32)), .val (.int c0), .val (.int c1), .val (.int c2), .unset, .unset, .unset] [(.int (1 : Int32)), (.ref b227), (.ref b227)])
      refine Go.of (fun _ => XS.iload H235.here hx rfl (hb hby at_89) rfl) ?_
      show Go p e below _ T234 (mkF m 91 #[.val (.int p0), .val (.int p1), .val (.int p2), .val (.int p3), .val (.int (3 : Int32)), .val (.int c0), .val (.int c1), .val (.int c2), .unset, .unset, .unset] [(.int c1), (.int (1 : Int32)), (.ref b227), (.ref b227)])
      refine own_castore H235 hx V240 ⟨by decide, by decide⟩ 1 (by decide) (Nat.le_of_ble_eq_true rfl) fr232 rfl rfl (hb hby at_91) fun T241 h243 H242 W244 V245 => ?_
      have V247 : Arv Z h243 b227 kA230 .char (3 : Int32) [(.int (nar .char c0)), (.int (nar .char c1)), (.int (0 : Int32))] (.int (0 : Int32)) := V245
      show Go p e below _ T241 (mkF m 92 #[.val (.int p0), .val (.int p1), .val (.int p2), .val (.int p3), .val (.int (3 : Int32)), .val (.int c0), .val (.int c1), .val (.int c2), .unset, .unset, .unset] [(.ref b227)])
      refine Go.of (fun _ => XS.dup H242.here hx rfl (hb hby at_92) rfl rfl) ?_
      show Go p e below _ T241 (mkF m 93 #[.val (.int p0), .val (.int p1), .val (.int p2), .val (.int p3), .val (.int (3 : Int32)), .val (.int c0), .val (.int c1), .val (.int c2), .unset, .unset, .unset] [(.ref b227), (.ref b227)])
      refine Go.of (fun _ => XS.iconst H242.here hx rfl (hb hby at_93)) ?_
      show Go p e below _ T241 (mkF m 94 #[.val (.int p0), .val (.int p1), .val (.int p2), .val (.int p3), .val (.int (3 : Int32)), .val (.int c0), .val (.int c1), .val (.int c2), .unset, .unset, .unset] [(.int (2 : Int32)), (.ref b227), (.ref b227)])
      refine Go.of (fun _ => XS.iload H242.here hx rfl (hb hby at_94) rfl) ?_
      show Go p e below _ T241 (mkF m 96 #[.val (.int p0), .val (.int p1), .val (.int p2), .val (.int p3), .val (.int (3 : Int32)), .val (.int c0), .val (.int c1), .val (.int c2), .unset, .unset, .unset] [(.int c2), (.int (2 : Int32)), (.ref b227), (.ref b227)])
      refine own_castore H242 hx V247 ⟨by decide, by decide⟩ 2 (by decide) (Nat.le_of_ble_eq_true rfl) fr232 rfl rfl (hb hby at_96) fun T248 h250 H249 W251 V252 => ?_
      have V254 : Arv Z h250 b227 kA230 .char (3 : Int32) [(.int (nar .char c0)), (.int (nar .char c1)), (.int (nar .char c2))] (.int (0 : Int32)) := V252
      show Go p e below _ T248 (mkF m 97 #[.val (.int p0), .val (.int p1), .val (.int p2), .val (.int p3), .val (.int (3 : Int32)), .val (.int c0), .val (.int c1), .val (.int c2), .unset, .unset, .unset] [(.ref b227)])
      refine Go.of (fun _ => XS.astore H249.here hx rfl (hb hby at_97) rfl rfl (l' := #[.val (.int p0), .val (.int p1), .val (.int p2), .val (.int p3), .val (.int (3 : Int32)), .val (.int c0), .val (.int c1), .val (.int c2), .val (.ref b227), .unset, .unset]) rfl) ?_
      show Go p e below _ T248 (mkF m 99 #[.val (.int p0), .val (.int p1), .val (.int p2), .val (.int p3), .val (.int (3 : Int32)), .val (.int c0), .val (.int c1), .val (.int c2), .val (.ref b227), .unset, .unset] [])
      refine own_new H249 hx hown (ow hw 5 rfl) (ow hw 6 rfl) (ow hw 7 rfl) rfl (hb hby at_99) (by decide) (by decide) fun T255 h257 b258 g259 H256 E260 A261 D262 => ?_
      have ne263 : b227 ≠ b258 := by rw [g259]; exact Nat.ne_of_lt V254.lt
      have fr264 : Z.heap.size ≤ b258 := by rw [g259]; exact H249.old.1
      have f265 := V254.ext E260
      have f266 : Fld Z h257 b258 "java/lang/String" "value" "[B" .null := D262 (Or.inr (ow hw 20 rfl)) (ty := (.array .byte)) (by decide)
      have f267 : Fld Z h257 b258 "java/lang/String" "coder" "B" (.int (0 : Int32)) := D262 (Or.inr (ow hw 21 rfl)) (ty := .byte) (by decide)
      show Go p e below _ T255 (mkF m 102 #[.val (.int p0), .val (.int p1), .val (.int p2), .val (.int p3), .val (.int (3 : Int32)), .val (.int c0), .val (.int c1), .val (.int c2), .val (.ref b227), .unset, .unset] [(.ref b258)])
      refine Go.of (fun _ => XS.dup H256.here hx rfl (hb hby at_102) rfl rfl) ?_
      show Go p e below _ T255 (mkF m 103 #[.val (.int p0), .val (.int p1), .val (.int p2), .val (.int p3), .val (.int (3 : Int32)), .val (.int c0), .val (.int c1), .val (.int c2), .val (.ref b227), .unset, .unset] [(.ref b258), (.ref b258)])
      refine Go.of (fun _ => XS.aload H256.here hx rfl (hb hby at_103) rfl rfl) ?_
      show Go p e below _ T255 (mkF m 105 #[.val (.int p0), .val (.int p1), .val (.int p2), .val (.int p3), .val (.int (3 : Int32)), .val (.int c0), .val (.int c1), .val (.int c2), .val (.ref b227), .unset, .unset] [(.ref b227), (.ref b258), (.ref b258)])
      have hV268 : Arv Z h257 b227 kA230 .char (Int32.ofNat 3) (([c0, c1, c2] : List Int32).map Value.int) (.int (0 : Int32)) := by have := f265; rw [own_narc16 hc0, own_narc16 hc1, own_narc16 hc2] at this; exact this
      refine own_specialW H256 hx (y := (⟨"java/lang/String", "<init>", "([C)V"⟩ : MethodName)) rfl hown (ow hw 8 rfl) (ow hw 9 rfl) (ow hw 7 rfl) (ow hw 10 rfl) (by decide) (W := 1) (rm_s1 l Z a0 hw hE b258 b227 kA230 3 ([c0, c1, c2] : List Int32) (.int (0 : Int32)) zc h257 H256.old A261 f266 f267 fr264 ne263 hV268 rfl (by decide) (allC hc0 (allC hc1 (allC hc2 all0c))) SC hzc SA SHB SLB) (allS (List.mem_of_getElem? (i := 0) rfl) all0) (by decide) (by decide) rfl (by rw [hml]; rfl) (a := b258) (argsL := [(.ref b227)]) (rest := [(.ref b258)]) rfl (lenOf pd_18 rfl) rfl (by show 2 * 0 + _ ≤ _; exact Nat.le_of_eq rfl) (hb hby at_105) (by decide) (by decide) fun T269 h271 v273 H270 hs274 q272 => ?_
      obtain ⟨rfl, KK, SS⟩ := q272
      have f275 := f265.keep KK (ninS ne263 nin0)
      have f276 := A261.keep KK
      show Go p e below _ T269 (mkF m 108 #[.val (.int p0), .val (.int p1), .val (.int p2), .val (.int p3), .val (.int (3 : Int32)), .val (.int c0), .val (.int c1), .val (.int c2), .val (.ref b227), .unset, .unset] [(.ref b258)])
      refine Go.of (fun _ => XS.astore H270.here hx rfl (hb hby at_108) rfl rfl (l' := #[.val (.int p0), .val (.int p1), .val (.int p2), .val (.int p3), .val (.int (3 : Int32)), .val (.int c0), .val (.int c1), .val (.int c2), .val (.ref b227), .val (.ref b258), .unset]) rfl) ?_
      show Go p e below _ T269 (mkF m 110 #[.val (.int p0), .val (.int p1), .val (.int p2), .val (.int p3), .val (.int (3 : Int32)), .val (.int c0), .val (.int c1), .val (.int c2), .val (.ref b227), .val (.ref b258), .unset] [])
      refine Go.of (fun _ => XS.iload H270.here hx rfl (hb hby at_110) rfl) ?_
      show Go p e below _ T269 (mkF m 112 #[.val (.int p0), .val (.int p1), .val (.int p2), .val (.int p3), .val (.int (3 : Int32)), .val (.int c0), .val (.int c1), .val (.int c2), .val (.ref b227), .val (.ref b258), .unset] [(.int (3 : Int32))])
      refine Go.of (fun _ => XS.ifNo H270.here hx rfl (hb hby at_112) rfl ((if0 _ _).trans (tlt (by decide : (0 : Int32) < (3 : Int32))).2.2.2)) ?_
      show Go p e below _ T269 (mkF m 115 #[.val (.int p0), .val (.int p1), .val (.int p2), .val (.int p3), .val (.int (3 : Int32)), .val (.int c0), .val (.int c1), .val (.int c2), .val (.ref b227), .val (.ref b258), .unset] [])
      refine Go.of (fun _ => XS.iload H270.here hx rfl (hb hby at_115) rfl) ?_
      show Go p e below _ T269 (mkF m 117 #[.val (.int p0), .val (.int p1), .val (.int p2), .val (.int p3), .val (.int (3 : Int32)), .val (.int c0), .val (.int c1), .val (.int c2), .val (.ref b227), .val (.ref b258), .unset] [(.int (3 : Int32))])
      refine Go.of (fun _ => XS.ifNo H270.here hx rfl (hb hby at_117) rfl ((if0 _ _).trans (tlt (by decide : (0 : Int32) < (3 : Int32))).2.2.2)) ?_
      show Go p e below _ T269 (mkF m 120 #[.val (.int p0), .val (.int p1), .val (.int p2), .val (.int p3), .val (.int (3 : Int32)), .val (.int c0), .val (.int c1), .val (.int c2), .val (.ref b227), .val (.ref b258), .unset] [])
      refine Go.of (fun _ => XS.iload H270.here hx rfl (hb hby at_120) rfl) ?_
      show Go p e below _ T269 (mkF m 122 #[.val (.int p0), .val (.int p1), .val (.int p2), .val (.int p3), .val (.int (3 : Int32)), .val (.int c0), .val (.int c1), .val (.int c2), .val (.ref b227), .val (.ref b258), .unset] [(.int c0)])
      refine own_staticW H270 hx (y := (⟨"com/example/brokerward/brokerward/rules/TopicFilterIsValidTopicNamePinLaw", "bad", "(C)Z"⟩ : MethodName)) hown (ow hw 46 rfl) (ow hw 47 rfl) (ow hw 2 rfl) (ow hw 48 rfl) (by decide) (W := 0) (rm_bad l Z a0 hw hE c0 h271 H270.old ) (fun _ hq => nomatch hq) (by decide) (by decide) rfl (by rw [hml]; rfl) (argsL := [(.int c0)]) (rest := []) rfl (lenOf pd_19 rfl) rfl (by show 2 * 0 + _ ≤ _; exact Nat.le_of_eq rfl) (hb hby at_122) (by decide) (by decide) fun T279 h281 v283 H280 hs284 q282 => ?_
      obtain ⟨ve286, e285⟩ := q282
      subst e285
      subst ve286
      show Go p e below _ T279 (mkF m 125 #[.val (.int p0), .val (.int p1), .val (.int p2), .val (.int p3), .val (.int (3 : Int32)), .val (.int c0), .val (.int c1), .val (.int c2), .val (.ref b227), .val (.ref b258), .unset] [(.int (if own_bd c0 then 1 else 0))])
      by_cases hq287 : own_bd c0
      · skip
        rw [if_pos hq287]
        show Go p e below _ T279 (mkF m 125 #[.val (.int p0), .val (.int p1), .val (.int p2), .val (.int p3), .val (.int (3 : Int32)), .val (.int c0), .val (.int c1), .val (.int c2), .val (.ref b227), .val (.ref b258), .unset] [(.int (1 : Int32))])
        refine Go.of (fun _ => XS.ifYes H280.here hx rfl (pc0 := 125) (pc' := 160) rfl (hb hby at_125) rfl ((if0 _ _).trans (feq (by decide : ¬ ((1 : Int32) = (0 : Int32)))).2) (by decide) (by decide)) ?_
        show Go p e below _ T279 (mkF m 160 #[.val (.int p0), .val (.int p1), .val (.int p2), .val (.int p3), .val (.int (3 : Int32)), .val (.int c0), .val (.int c1), .val (.int c2), .val (.ref b227), .val (.ref b258), .unset] [])
        refine Go.of (fun _ => XS.iconst H280.here hx rfl (hb hby at_160)) ?_
        show Go p e below _ T279 (mkF m 161 #[.val (.int p0), .val (.int p1), .val (.int p2), .val (.int p3), .val (.int (3 : Int32)), .val (.int c0), .val (.int c1), .val (.int c2), .val (.ref b227), .val (.ref b258), .unset] [(.int (0 : Int32))])
        refine Go.of (fun _ => XS.istore H280.here hx rfl (hb hby at_161) rfl (l' := #[.val (.int p0), .val (.int p1), .val (.int p2), .val (.int p3), .val (.int (3 : Int32)), .val (.int c0), .val (.int c1), .val (.int c2), .val (.ref b227), .val (.ref b258), .val (.int (0 : Int32))]) rfl) ?_
        show Go p e below _ T279 (mkF m 163 #[.val (.int p0), .val (.int p1), .val (.int p2), .val (.int p3), .val (.int (3 : Int32)), .val (.int c0), .val (.int c1), .val (.int c2), .val (.ref b227), .val (.ref b258), .val (.int (0 : Int32))] [])
        refine Go.of (fun _ => XS.aload H280.here hx rfl (hb hby at_163) rfl rfl) ?_
        show Go p e below _ T279 (mkF m 165 #[.val (.int p0), .val (.int p1), .val (.int p2), .val (.int p3), .val (.int (3 : Int32)), .val (.int c0), .val (.int c1), .val (.int c2), .val (.ref b227), .val (.ref b258), .val (.int (0 : Int32))] [(.ref b258)])
        refine own_staticW H280 hx (y := (⟨"com/example/brokerward/brokerward/rules/TopicFilter", "isValidTopicName", "(Ljava/lang/String;)Z"⟩ : MethodName)) hown (ow hw 26 rfl) (ow hw 27 rfl) (ow hw 28 rfl) (ow hw 29 rfl) (by decide) (W := 0) (rm_ivt l Z a0 hw hE b258 ([c0, c1, c2] : List Int32) zc fm h271 H280.old SS (by simp) SC hzc SF hfm SA SHB SLB) (fun _ hq => nomatch hq) (by decide) (by decide) rfl (by rw [hml]; rfl) (argsL := [(.ref b258)]) (rest := []) rfl (lenOf pd_16 rfl) rfl (by show 2 * 0 + _ ≤ _; exact Nat.le_of_eq rfl) (hb hby at_165) (by decide) (by decide) fun T288 h290 v292 H289 hs293 q291 => ?_
        obtain ⟨ve295, e294⟩ := q291
        subst e294
        subst ve295
        show Go p e below _ T288 (mkF m 168 #[.val (.int p0), .val (.int p1), .val (.int p2), .val (.int p3), .val (.int (3 : Int32)), .val (.int c0), .val (.int c1), .val (.int c2), .val (.ref b227), .val (.ref b258), .val (.int (0 : Int32))] [(.int (if own_vt ([c0, c1, c2] : List Int32) then 1 else 0))])
        rw [if_neg (show ¬ own_vt ([c0, c1, c2] : List Int32) from (own_vtF (List.mem_of_getElem? (i := 0) rfl) hq287))]
        show Go p e below _ T288 (mkF m 168 #[.val (.int p0), .val (.int p1), .val (.int p2), .val (.int p3), .val (.int (3 : Int32)), .val (.int c0), .val (.int c1), .val (.int c2), .val (.ref b227), .val (.ref b258), .val (.int (0 : Int32))] [(.int (0 : Int32))])
        refine Go.of (fun _ => XS.iload H289.here hx rfl (hb hby at_168) rfl) ?_
        show Go p e below _ T288 (mkF m 170 #[.val (.int p0), .val (.int p1), .val (.int p2), .val (.int p3), .val (.int (3 : Int32)), .val (.int c0), .val (.int c1), .val (.int c2), .val (.ref b227), .val (.ref b258), .val (.int (0 : Int32))] [(.int (0 : Int32)), (.int (0 : Int32))])
        refine Go.of (fun _ => XS.icmpNo H289.here hx rfl (hb hby at_170) rfl (teq (by decide : (0 : Int32) = (0 : Int32))).2) ?_
        show Go p e below _ T288 (mkF m 173 #[.val (.int p0), .val (.int p1), .val (.int p2), .val (.int p3), .val (.int (3 : Int32)), .val (.int c0), .val (.int c1), .val (.int c2), .val (.ref b227), .val (.ref b258), .val (.int (0 : Int32))] [])
        refine Go.of (fun _ => XS.iconst H289.here hx rfl (hb hby at_173)) ?_
        show Go p e below _ T288 (mkF m 174 #[.val (.int p0), .val (.int p1), .val (.int p2), .val (.int p3), .val (.int (3 : Int32)), .val (.int c0), .val (.int c1), .val (.int c2), .val (.ref b227), .val (.ref b258), .val (.int (0 : Int32))] [(.int (1 : Int32))])
        refine Go.of (fun _ => XS.goto H289.here hx rfl (pc0 := 174) (pc' := 178) rfl (hb hby at_174) (by decide) (by decide)) ?_
        show Go p e below _ T288 (mkF m 178 #[.val (.int p0), .val (.int p1), .val (.int p2), .val (.int p3), .val (.int (3 : Int32)), .val (.int c0), .val (.int c1), .val (.int c2), .val (.ref b227), .val (.ref b258), .val (.int (0 : Int32))] [(.int (1 : Int32))])
        exact own_retN H289 hx hlk (t := .boolean) hret (by simp) (hb hby at_178) all0 rfl (by decide) (by decide)
      · skip
        rw [if_neg hq287]
        show Go p e below _ T279 (mkF m 125 #[.val (.int p0), .val (.int p1), .val (.int p2), .val (.int p3), .val (.int (3 : Int32)), .val (.int c0), .val (.int c1), .val (.int c2), .val (.ref b227), .val (.ref b258), .unset] [(.int (0 : Int32))])
        refine Go.of (fun _ => XS.ifNo H280.here hx rfl (hb hby at_125) rfl ((if0 _ _).trans (teq (by decide : (0 : Int32) = (0 : Int32))).2)) ?_
        show Go p e below _ T279 (mkF m 128 #[.val (.int p0), .val (.int p1), .val (.int p2), .val (.int p3), .val (.int (3 : Int32)), .val (.int c0), .val (.int c1), .val (.int c2), .val (.ref b227), .val (.ref b258), .unset] [])
        refine Go.of (fun _ => XS.iload H280.here hx rfl (hb hby at_128) rfl) ?_
        show Go p e below _ T279 (mkF m 130 #[.val (.int p0), .val (.int p1), .val (.int p2), .val (.int p3), .val (.int (3 : Int32)), .val (.int c0), .val (.int c1), .val (.int c2), .val (.ref b227), .val (.ref b258), .unset] [(.int (3 : Int32))])
        refine Go.of (fun _ => XS.iconst H280.here hx rfl (hb hby at_130)) ?_
        show Go p e below _ T279 (mkF m 131 #[.val (.int p0), .val (.int p1), .val (.int p2), .val (.int p3), .val (.int (3 : Int32)), .val (.int c0), .val (.int c1), .val (.int c2), .val (.ref b227), .val (.ref b258), .unset] [(.int (1 : Int32)), (.int (3 : Int32))])
        refine Go.of (fun _ => XS.icmpNo H280.here hx rfl (hb hby at_131) rfl (tlt (by decide : (1 : Int32) < (3 : Int32))).2.2.2) ?_
        show Go p e below _ T279 (mkF m 134 #[.val (.int p0), .val (.int p1), .val (.int p2), .val (.int p3), .val (.int (3 : Int32)), .val (.int c0), .val (.int c1), .val (.int c2), .val (.ref b227), .val (.ref b258), .unset] [])
        refine Go.of (fun _ => XS.iload H280.here hx rfl (hb hby at_134) rfl) ?_
        show Go p e below _ T279 (mkF m 136 #[.val (.int p0), .val (.int p1), .val (.int p2), .val (.int p3), .val (.int (3 : Int32)), .val (.int c0), .val (.int c1), .val (.int c2), .val (.ref b227), .val (.ref b258), .unset] [(.int c1)])
        refine own_staticW H280 hx (y := (⟨"com/example/brokerward/brokerward/rules/TopicFilterIsValidTopicNamePinLaw", "bad", "(C)Z"⟩ : MethodName)) hown (ow hw 46 rfl) (ow hw 47 rfl) (ow hw 2 rfl) (ow hw 48 rfl) (by decide) (W := 0) (rm_bad l Z a0 hw hE c1 h271 H280.old ) (fun _ hq => nomatch hq) (by decide) (by decide) rfl (by rw [hml]; rfl) (argsL := [(.int c1)]) (rest := []) rfl (lenOf pd_19 rfl) rfl (by show 2 * 0 + _ ≤ _; exact Nat.le_of_eq rfl) (hb hby at_136) (by decide) (by decide) fun T296 h298 v300 H297 hs301 q299 => ?_
        obtain ⟨ve303, e302⟩ := q299
        subst e302
        subst ve303
        show Go p e below _ T296 (mkF m 139 #[.val (.int p0), .val (.int p1), .val (.int p2), .val (.int p3), .val (.int (3 : Int32)), .val (.int c0), .val (.int c1), .val (.int c2), .val (.ref b227), .val (.ref b258), .unset] [(.int (if own_bd c1 then 1 else 0))])
        by_cases hq304 : own_bd c1
        · skip
          rw [if_pos hq304]
          show Go p e below _ T296 (mkF m 139 #[.val (.int p0), .val (.int p1), .val (.int p2), .val (.int p3), .val (.int (3 : Int32)), .val (.int c0), .val (.int c1), .val (.int c2), .val (.ref b227), .val (.ref b258), .unset] [(.int (1 : Int32))])
          refine Go.of (fun _ => XS.ifYes H297.here hx rfl (pc0 := 139) (pc' := 160) rfl (hb hby at_139) rfl ((if0 _ _).trans (feq (by decide : ¬ ((1 : Int32) = (0 : Int32)))).2) (by decide) (by decide)) ?_
          show Go p e below _ T296 (mkF m 160 #[.val (.int p0), .val (.int p1), .val (.int p2), .val (.int p3), .val (.int (3 : Int32)), .val (.int c0), .val (.int c1), .val (.int c2), .val (.ref b227), .val (.ref b258), .unset] [])
          refine Go.of (fun _ => XS.iconst H297.here hx rfl (hb hby at_160)) ?_
          show Go p e below _ T296 (mkF m 161 #[.val (.int p0), .val (.int p1), .val (.int p2), .val (.int p3), .val (.int (3 : Int32)), .val (.int c0), .val (.int c1), .val (.int c2), .val (.ref b227), .val (.ref b258), .unset] [(.int (0 : Int32))])
          refine Go.of (fun _ => XS.istore H297.here hx rfl (hb hby at_161) rfl (l' := #[.val (.int p0), .val (.int p1), .val (.int p2), .val (.int p3), .val (.int (3 : Int32)), .val (.int c0), .val (.int c1), .val (.int c2), .val (.ref b227), .val (.ref b258), .val (.int (0 : Int32))]) rfl) ?_
          show Go p e below _ T296 (mkF m 163 #[.val (.int p0), .val (.int p1), .val (.int p2), .val (.int p3), .val (.int (3 : Int32)), .val (.int c0), .val (.int c1), .val (.int c2), .val (.ref b227), .val (.ref b258), .val (.int (0 : Int32))] [])
          refine Go.of (fun _ => XS.aload H297.here hx rfl (hb hby at_163) rfl rfl) ?_
          show Go p e below _ T296 (mkF m 165 #[.val (.int p0), .val (.int p1), .val (.int p2), .val (.int p3), .val (.int (3 : Int32)), .val (.int c0), .val (.int c1), .val (.int c2), .val (.ref b227), .val (.ref b258), .val (.int (0 : Int32))] [(.ref b258)])
          refine own_staticW H297 hx (y := (⟨"com/example/brokerward/brokerward/rules/TopicFilter", "isValidTopicName", "(Ljava/lang/String;)Z"⟩ : MethodName)) hown (ow hw 26 rfl) (ow hw 27 rfl) (ow hw 28 rfl) (ow hw 29 rfl) (by decide) (W := 0) (rm_ivt l Z a0 hw hE b258 ([c0, c1, c2] : List Int32) zc fm h271 H297.old SS (by simp) SC hzc SF hfm SA SHB SLB) (fun _ hq => nomatch hq) (by decide) (by decide) rfl (by rw [hml]; rfl) (argsL := [(.ref b258)]) (rest := []) rfl (lenOf pd_16 rfl) rfl (by show 2 * 0 + _ ≤ _; exact Nat.le_of_eq rfl) (hb hby at_165) (by decide) (by decide) fun T305 h307 v309 H306 hs310 q308 => ?_
          obtain ⟨ve312, e311⟩ := q308
          subst e311
          subst ve312
          show Go p e below _ T305 (mkF m 168 #[.val (.int p0), .val (.int p1), .val (.int p2), .val (.int p3), .val (.int (3 : Int32)), .val (.int c0), .val (.int c1), .val (.int c2), .val (.ref b227), .val (.ref b258), .val (.int (0 : Int32))] [(.int (if own_vt ([c0, c1, c2] : List Int32) then 1 else 0))])
          rw [if_neg (show ¬ own_vt ([c0, c1, c2] : List Int32) from (own_vtF (List.mem_of_getElem? (i := 1) rfl) hq304))]
          show Go p e below _ T305 (mkF m 168 #[.val (.int p0), .val (.int p1), .val (.int p2), .val (.int p3), .val (.int (3 : Int32)), .val (.int c0), .val (.int c1), .val (.int c2), .val (.ref b227), .val (.ref b258), .val (.int (0 : Int32))] [(.int (0 : Int32))])
          refine Go.of (fun _ => XS.iload H306.here hx rfl (hb hby at_168) rfl) ?_
          show Go p e below _ T305 (mkF m 170 #[.val (.int p0), .val (.int p1), .val (.int p2), .val (.int p3), .val (.int (3 : Int32)), .val (.int c0), .val (.int c1), .val (.int c2), .val (.ref b227), .val (.ref b258), .val (.int (0 : Int32))] [(.int (0 : Int32)), (.int (0 : Int32))])
          refine Go.of (fun _ => XS.icmpNo H306.here hx rfl (hb hby at_170) rfl (teq (by decide : (0 : Int32) = (0 : Int32))).2) ?_
          show Go p e below _ T305 (mkF m 173 #[.val (.int p0), .val (.int p1), .val (.int p2), .val (.int p3), .val (.int (3 : Int32)), .val (.int c0), .val (.int c1), .val (.int c2), .val (.ref b227), .val (.ref b258), .val (.int (0 : Int32))] [])
          refine Go.of (fun _ => XS.iconst H306.here hx rfl (hb hby at_173)) ?_
          show Go p e below _ T305 (mkF m 174 #[.val (.int p0), .val (.int p1), .val (.int p2), .val (.int p3), .val (.int (3 : Int32)), .val (.int c0), .val (.int c1), .val (.int c2), .val (.ref b227), .val (.ref b258), .val (.int (0 : Int32))] [(.int (1 : Int32))])
          refine Go.of (fun _ => XS.goto H306.here hx rfl (pc0 := 174) (pc' := 178) rfl (hb hby at_174) (by decide) (by decide)) ?_
          show Go p e below _ T305 (mkF m 178 #[.val (.int p0), .val (.int p1), .val (.int p2), .val (.int p3), .val (.int (3 : Int32)), .val (.int c0), .val (.int c1), .val (.int c2), .val (.ref b227), .val (.ref b258), .val (.int (0 : Int32))] [(.int (1 : Int32))])
          exact own_retN H306 hx hlk (t := .boolean) hret (by simp) (hb hby at_178) all0 rfl (by decide) (by decide)
        · skip
          rw [if_neg hq304]
          show Go p e below _ T296 (mkF m 139 #[.val (.int p0), .val (.int p1), .val (.int p2), .val (.int p3), .val (.int (3 : Int32)), .val (.int c0), .val (.int c1), .val (.int c2), .val (.ref b227), .val (.ref b258), .unset] [(.int (0 : Int32))])
          refine Go.of (fun _ => XS.ifNo H297.here hx rfl (hb hby at_139) rfl ((if0 _ _).trans (teq (by decide : (0 : Int32) = (0 : Int32))).2)) ?_
          show Go p e below _ T296 (mkF m 142 #[.val (.int p0), .val (.int p1), .val (.int p2), .val (.int p3), .val (.int (3 : Int32)), .val (.int c0), .val (.int c1), .val (.int c2), .val (.ref b227), .val (.ref b258), .unset] [])
          refine Go.of (fun _ => XS.iload H297.here hx rfl (hb hby at_142) rfl) ?_
          show Go p e below _ T296 (mkF m 144 #[.val (.int p0), .val (.int p1), .val (.int p2), .val (.int p3), .val (.int (3 : Int32)), .val (.int c0), .val (.int c1), .val (.int c2), .val (.ref b227), .val (.ref b258), .unset] [(.int (3 : Int32))])
          refine Go.of (fun _ => XS.iconst H297.here hx rfl (hb hby at_144)) ?_
          show Go p e below _ T296 (mkF m 145 #[.val (.int p0), .val (.int p1), .val (.int p2), .val (.int p3), .val (.int (3 : Int32)), .val (.int c0), .val (.int c1), .val (.int c2), .val (.ref b227), .val (.ref b258), .unset] [(.int (2 : Int32)), (.int (3 : Int32))])
          refine Go.of (fun _ => XS.icmpNo H297.here hx rfl (hb hby at_145) rfl (tlt (by decide : (2 : Int32) < (3 : Int32))).2.2.2) ?_
          show Go p e below _ T296 (mkF m 148 #[.val (.int p0), .val (.int p1), .val (.int p2), .val (.int p3), .val (.int (3 : Int32)), .val (.int c0), .val (.int c1), .val (.int c2), .val (.ref b227), .val (.ref b258), .unset] [])
          refine Go.of (fun _ => XS.iload H297.here hx rfl (hb hby at_148) rfl) ?_
          show Go p e below _ T296 (mkF m 150 #[.val (.int p0), .val (.int p1), .val (.int p2), .val (.int p3), .val (.int (3 : Int32)), .val (.int c0), .val (.int c1), .val (.int c2), .val (.ref b227), .val (.ref b258), .unset] [(.int c2)])
          refine own_staticW H297 hx (y := (⟨"com/example/brokerward/brokerward/rules/TopicFilterIsValidTopicNamePinLaw", "bad", "(C)Z"⟩ : MethodName)) hown (ow hw 46 rfl) (ow hw 47 rfl) (ow hw 2 rfl) (ow hw 48 rfl) (by decide) (W := 0) (rm_bad l Z a0 hw hE c2 h271 H297.old ) (fun _ hq => nomatch hq) (by decide) (by decide) rfl (by rw [hml]; rfl) (argsL := [(.int c2)]) (rest := []) rfl (lenOf pd_19 rfl) rfl (by show 2 * 0 + _ ≤ _; exact Nat.le_of_eq rfl) (hb hby at_150) (by decide) (by decide) fun T313 h315 v317 H314 hs318 q316 => ?_
          obtain ⟨ve320, e319⟩ := q316
          subst e319
          subst ve320
          show Go p e below _ T313 (mkF m 153 #[.val (.int p0), .val (.int p1), .val (.int p2), .val (.int p3), .val (.int (3 : Int32)), .val (.int c0), .val (.int c1), .val (.int c2), .val (.ref b227), .val (.ref b258), .unset] [(.int (if own_bd c2 then 1 else 0))])
          by_cases hq321 : own_bd c2
          · skip
            rw [if_pos hq321]
            show Go p e below _ T313 (mkF m 153 #[.val (.int p0), .val (.int p1), .val (.int p2), .val (.int p3), .val (.int (3 : Int32)), .val (.int c0), .val (.int c1), .val (.int c2), .val (.ref b227), .val (.ref b258), .unset] [(.int (1 : Int32))])
            refine Go.of (fun _ => XS.ifYes H314.here hx rfl (pc0 := 153) (pc' := 160) rfl (hb hby at_153) rfl ((if0 _ _).trans (feq (by decide : ¬ ((1 : Int32) = (0 : Int32)))).2) (by decide) (by decide)) ?_
            show Go p e below _ T313 (mkF m 160 #[.val (.int p0), .val (.int p1), .val (.int p2), .val (.int p3), .val (.int (3 : Int32)), .val (.int c0), .val (.int c1), .val (.int c2), .val (.ref b227), .val (.ref b258), .unset] [])
            refine Go.of (fun _ => XS.iconst H314.here hx rfl (hb hby at_160)) ?_
            show Go p e below _ T313 (mkF m 161 #[.val (.int p0), .val (.int p1), .val (.int p2), .val (.int p3), .val (.int (3 : Int32)), .val (.int c0), .val (.int c1), .val (.int c2), .val (.ref b227), .val (.ref b258), .unset] [(.int (0 : Int32))])
            refine Go.of (fun _ => XS.istore H314.here hx rfl (hb hby at_161) rfl (l' := #[.val (.int p0), .val (.int p1), .val (.int p2), .val (.int p3), .val (.int (3 : Int32)), .val (.int c0), .val (.int c1), .val (.int c2), .val (.ref b227), .val (.ref b258), .val (.int (0 : Int32))]) rfl) ?_
            show Go p e below _ T313 (mkF m 163 #[.val (.int p0), .val (.int p1), .val (.int p2), .val (.int p3), .val (.int (3 : Int32)), .val (.int c0), .val (.int c1), .val (.int c2), .val (.ref b227), .val (.ref b258), .val (.int (0 : Int32))] [])
            refine Go.of (fun _ => XS.aload H314.here hx rfl (hb hby at_163) rfl rfl) ?_
            show Go p e below _ T313 (mkF m 165 #[.val (.int p0), .val (.int p1), .val (.int p2), .val (.int p3), .val (.int (3 : Int32)), .val (.int c0), .val (.int c1), .val (.int c2), .val (.ref b227), .val (.ref b258), .val (.int (0 : Int32))] [(.ref b258)])
            refine own_staticW H314 hx (y := (⟨"com/example/brokerward/brokerward/rules/TopicFilter", "isValidTopicName", "(Ljava/lang/String;)Z"⟩ : MethodName)) hown (ow hw 26 rfl) (ow hw 27 rfl) (ow hw 28 rfl) (ow hw 29 rfl) (by decide) (W := 0) (rm_ivt l Z a0 hw hE b258 ([c0, c1, c2] : List Int32) zc fm h271 H314.old SS (by simp) SC hzc SF hfm SA SHB SLB) (fun _ hq => nomatch hq) (by decide) (by decide) rfl (by rw [hml]; rfl) (argsL := [(.ref b258)]) (rest := []) rfl (lenOf pd_16 rfl) rfl (by show 2 * 0 + _ ≤ _; exact Nat.le_of_eq rfl) (hb hby at_165) (by decide) (by decide) fun T322 h324 v326 H323 hs327 q325 => ?_
            obtain ⟨ve329, e328⟩ := q325
            subst e328
            subst ve329
            show Go p e below _ T322 (mkF m 168 #[.val (.int p0), .val (.int p1), .val (.int p2), .val (.int p3), .val (.int (3 : Int32)), .val (.int c0), .val (.int c1), .val (.int c2), .val (.ref b227), .val (.ref b258), .val (.int (0 : Int32))] [(.int (if own_vt ([c0, c1, c2] : List Int32) then 1 else 0))])
            rw [if_neg (show ¬ own_vt ([c0, c1, c2] : List Int32) from (own_vtF (List.mem_of_getElem? (i := 2) rfl) hq321))]
            show Go p e below _ T322 (mkF m 168 #[.val (.int p0), .val (.int p1), .val (.int p2), .val (.int p3), .val (.int (3 : Int32)), .val (.int c0), .val (.int c1), .val (.int c2), .val (.ref b227), .val (.ref b258), .val (.int (0 : Int32))] [(.int (0 : Int32))])
            refine Go.of (fun _ => XS.iload H323.here hx rfl (hb hby at_168) rfl) ?_
            show Go p e below _ T322 (mkF m 170 #[.val (.int p0), .val (.int p1), .val (.int p2), .val (.int p3), .val (.int (3 : Int32)), .val (.int c0), .val (.int c1), .val (.int c2), .val (.ref b227), .val (.ref b258), .val (.int (0 : Int32))] [(.int (0 : Int32)), (.int (0 : Int32))])
            refine Go.of (fun _ => XS.icmpNo H323.here hx rfl (hb hby at_170) rfl (teq (by decide : (0 : Int32) = (0 : Int32))).2) ?_
            show Go p e below _ T322 (mkF m 173 #[.val (.int p0), .val (.int p1), .val (.int p2), .val (.int p3), .val (.int (3 : Int32)), .val (.int c0), .val (.int c1), .val (.int c2), .val (.ref b227), .val (.ref b258), .val (.int (0 : Int32))] [])
            refine Go.of (fun _ => XS.iconst H323.here hx rfl (hb hby at_173)) ?_
            show Go p e below _ T322 (mkF m 174 #[.val (.int p0), .val (.int p1), .val (.int p2), .val (.int p3), .val (.int (3 : Int32)), .val (.int c0), .val (.int c1), .val (.int c2), .val (.ref b227), .val (.ref b258), .val (.int (0 : Int32))] [(.int (1 : Int32))])
            refine Go.of (fun _ => XS.goto H323.here hx rfl (pc0 := 174) (pc' := 178) rfl (hb hby at_174) (by decide) (by decide)) ?_
            show Go p e below _ T322 (mkF m 178 #[.val (.int p0), .val (.int p1), .val (.int p2), .val (.int p3), .val (.int (3 : Int32)), .val (.int c0), .val (.int c1), .val (.int c2), .val (.ref b227), .val (.ref b258), .val (.int (0 : Int32))] [(.int (1 : Int32))])
            exact own_retN H323 hx hlk (t := .boolean) hret (by simp) (hb hby at_178) all0 rfl (by decide) (by decide)
          · skip
            rw [if_neg hq321]
            show Go p e below _ T313 (mkF m 153 #[.val (.int p0), .val (.int p1), .val (.int p2), .val (.int p3), .val (.int (3 : Int32)), .val (.int c0), .val (.int c1), .val (.int c2), .val (.ref b227), .val (.ref b258), .unset] [(.int (0 : Int32))])
            refine Go.of (fun _ => XS.ifNo H314.here hx rfl (hb hby at_153) rfl ((if0 _ _).trans (teq (by decide : (0 : Int32) = (0 : Int32))).2)) ?_
            show Go p e below _ T313 (mkF m 156 #[.val (.int p0), .val (.int p1), .val (.int p2), .val (.int p3), .val (.int (3 : Int32)), .val (.int c0), .val (.int c1), .val (.int c2), .val (.ref b227), .val (.ref b258), .unset] [])
            refine Go.of (fun _ => XS.iconst H314.here hx rfl (hb hby at_156)) ?_
            show Go p e below _ T313 (mkF m 157 #[.val (.int p0), .val (.int p1), .val (.int p2), .val (.int p3), .val (.int (3 : Int32)), .val (.int c0), .val (.int c1), .val (.int c2), .val (.ref b227), .val (.ref b258), .unset] [(.int (1 : Int32))])
            refine Go.of (fun _ => XS.goto H314.here hx rfl (pc0 := 157) (pc' := 161) rfl (hb hby at_157) (by decide) (by decide)) ?_
            show Go p e below _ T313 (mkF m 161 #[.val (.int p0), .val (.int p1), .val (.int p2), .val (.int p3), .val (.int (3 : Int32)), .val (.int c0), .val (.int c1), .val (.int c2), .val (.ref b227), .val (.ref b258), .unset] [(.int (1 : Int32))])
            refine Go.of (fun _ => XS.istore H314.here hx rfl (hb hby at_161) rfl (l' := #[.val (.int p0), .val (.int p1), .val (.int p2), .val (.int p3), .val (.int (3 : Int32)), .val (.int c0), .val (.int c1), .val (.int c2), .val (.ref b227), .val (.ref b258), .val (.int (1 : Int32))]) rfl) ?_
            show Go p e below _ T313 (mkF m 163 #[.val (.int p0), .val (.int p1), .val (.int p2), .val (.int p3), .val (.int (3 : Int32)), .val (.int c0), .val (.int c1), .val (.int c2), .val (.ref b227), .val (.ref b258), .val (.int (1 : Int32))] [])
            refine Go.of (fun _ => XS.aload H314.here hx rfl (hb hby at_163) rfl rfl) ?_
            show Go p e below _ T313 (mkF m 165 #[.val (.int p0), .val (.int p1), .val (.int p2), .val (.int p3), .val (.int (3 : Int32)), .val (.int c0), .val (.int c1), .val (.int c2), .val (.ref b227), .val (.ref b258), .val (.int (1 : Int32))] [(.ref b258)])
            refine own_staticW H314 hx (y := (⟨"com/example/brokerward/brokerward/rules/TopicFilter", "isValidTopicName", "(Ljava/lang/String;)Z"⟩ : MethodName)) hown (ow hw 26 rfl) (ow hw 27 rfl) (ow hw 28 rfl) (ow hw 29 rfl) (by decide) (W := 0) (rm_ivt l Z a0 hw hE b258 ([c0, c1, c2] : List Int32) zc fm h271 H314.old SS (by simp) SC hzc SF hfm SA SHB SLB) (fun _ hq => nomatch hq) (by decide) (by decide) rfl (by rw [hml]; rfl) (argsL := [(.ref b258)]) (rest := []) rfl (lenOf pd_16 rfl) rfl (by show 2 * 0 + _ ≤ _; exact Nat.le_of_eq rfl) (hb hby at_165) (by decide) (by decide) fun T330 h332 v334 H331 hs335 q333 => ?_
            obtain ⟨ve337, e336⟩ := q333
            subst e336
            subst ve337
            show Go p e below _ T330 (mkF m 168 #[.val (.int p0), .val (.int p1), .val (.int p2), .val (.int p3), .val (.int (3 : Int32)), .val (.int c0), .val (.int c1), .val (.int c2), .val (.ref b227), .val (.ref b258), .val (.int (1 : Int32))] [(.int (if own_vt ([c0, c1, c2] : List Int32) then 1 else 0))])
            rw [if_pos (show own_vt ([c0, c1, c2] : List Int32) from (own_vtT (by simp) (allC hq287 (allC hq304 (allC hq321 all0c)))))]
            show Go p e below _ T330 (mkF m 168 #[.val (.int p0), .val (.int p1), .val (.int p2), .val (.int p3), .val (.int (3 : Int32)), .val (.int c0), .val (.int c1), .val (.int c2), .val (.ref b227), .val (.ref b258), .val (.int (1 : Int32))] [(.int (1 : Int32))])
            refine Go.of (fun _ => XS.iload H331.here hx rfl (hb hby at_168) rfl) ?_
            show Go p e below _ T330 (mkF m 170 #[.val (.int p0), .val (.int p1), .val (.int p2), .val (.int p3), .val (.int (3 : Int32)), .val (.int c0), .val (.int c1), .val (.int c2), .val (.ref b227), .val (.ref b258), .val (.int (1 : Int32))] [(.int (1 : Int32)), (.int (1 : Int32))])
            refine Go.of (fun _ => XS.icmpNo H331.here hx rfl (hb hby at_170) rfl (teq (by decide : (1 : Int32) = (1 : Int32))).2) ?_
            show Go p e below _ T330 (mkF m 173 #[.val (.int p0), .val (.int p1), .val (.int p2), .val (.int p3), .val (.int (3 : Int32)), .val (.int c0), .val (.int c1), .val (.int c2), .val (.ref b227), .val (.ref b258), .val (.int (1 : Int32))] [])
            refine Go.of (fun _ => XS.iconst H331.here hx rfl (hb hby at_173)) ?_
            show Go p e below _ T330 (mkF m 174 #[.val (.int p0), .val (.int p1), .val (.int p2), .val (.int p3), .val (.int (3 : Int32)), .val (.int c0), .val (.int c1), .val (.int c2), .val (.ref b227), .val (.ref b258), .val (.int (1 : Int32))] [(.int (1 : Int32))])
            refine Go.of (fun _ => XS.goto H331.here hx rfl (pc0 := 174) (pc' := 178) rfl (hb hby at_174) (by decide) (by decide)) ?_
            show Go p e below _ T330 (mkF m 178 #[.val (.int p0), .val (.int p1), .val (.int p2), .val (.int p3), .val (.int (3 : Int32)), .val (.int c0), .val (.int c1), .val (.int c2), .val (.ref b227), .val (.ref b258), .val (.int (1 : Int32))] [(.int (1 : Int32))])
            exact own_retN H331 hx hlk (t := .boolean) hret (by simp) (hb hby at_178) all0 rfl (by decide) (by decide)
  exact J23_25 (p0 &&& (3 : Int32)) (own_pick p1) (own_pick p2) (own_pick p3) (own_four _) (own_pickr _) (own_pickr _) (own_pickr _)
set_option maxRecDepth 65536 in
set_option maxHeartbeats 40000000 in
theorem comes_1 {Post : Tables → Env → Array Value → State → Outcome → State → Prop} (hpost : ∀ tb e args s v u, (limb_1_1.after args s (.returned v) u = true ∧ limb_1_2.after args s (.returned v) u = true ∧ True) → ReturnedEndW s (.returned v) u (Jvm.fieldLocs frame_1_writes args s ++ Jvm.arrayLocs frame_1_arrays args s ++ Jvm.staticLocs frame_1_statics s) 24 1152 → Post tb e args s (.returned v) u) :
    ArmFor flags0 classFile x code maxLocals ret World_1 tables_1 room_1 Calls_1 rest_1 Pre_1 Post := by
  intro l hfl _ _ p e ha hc hk s m args below hf hA hF happ hP
  obtain ⟨hcalls, hrest, hpre⟩ := hP
  obtain ⟨-, -, -, hnamed, -, -, -, hat⟩ := (Spec.applies_iff hf).mp happ
  obtain ⟨hg, hn⟩ := and_e (Cond.before_iff.mp (show (Jvm.Cond.and given_1 narrow_1).before args s = true from hpre))
  obtain ⟨g0, gg0⟩ := and_e hg
  obtain ⟨g1, gg1⟩ := and_e gg0
  obtain ⟨g2, gg2⟩ := and_e gg1
  obtain ⟨g3, gg3⟩ := and_e gg2
  obtain ⟨u0, u1, u2, u3, rfl⟩ : ∃ u0 u1 u2 u3 : Value, args = #[u0, u1, u2, u3] := by
    have hs : args.size = 4 := by simpa [Cond.value, given_1] using g0
    obtain ⟨L⟩ := args
    match L, hs with
    | [u0, u1, u2, u3], _ => exact ⟨u0, u1, u2, u3, rfl⟩
  have hw := fun d (hd : d ∈ tables_1) => atoms_spec (ws := Jvm.Cond.code x code maxLocals ret :: tables_1) hat d (List.mem_cons_of_mem _ hd)
  obtain ⟨i0, ei0⟩ := is_v g1
  obtain rfl : u0 = (.int i0) := Option.some.inj ei0
  obtain ⟨i1, ei1⟩ := is_v g2
  obtain rfl : u1 = (.int i1) := Option.some.inj ei1
  obtain ⟨i2, ei2⟩ := is_v g3
  obtain rfl : u2 = (.int i2) := Option.some.inj ei2
  obtain ⟨i3, ei3⟩ := is_v gg3
  obtain rfl : u3 = (.int i3) := Option.some.inj ei3
  obtain ⟨hsets, hown0⟩ := atoms_of _ (rest_1_c_eq ▸ (show rest_1_c.before _ s = true from hrest))
  have n5 := not_v (Cond.before_iff.mp (hsets _ (List.mem_of_getElem? (i := 2) rfl)))
  obtain ⟨zc, ezc⟩ := is_v (Cond.before_iff.mp (hsets _ (List.mem_of_getElem? (i := 1) rfl)))
  have SC := Sta.start ezc (Or.inl (hsets _ (List.mem_of_getElem? (i := 0) rfl)))
  have hzc : ¬ (zc = (0 : Int32)) := gotF (Cond.eq_ints ezc (Term.int_eval (0))) n5
  obtain ⟨fm, efm, hfm⟩ := isR_v (Cond.before_iff.mp (hsets _ (List.mem_of_getElem? (i := 8) rfl)))
  have SF := Sta.start efm (Or.inl (hsets _ (List.mem_of_getElem? (i := 7) rfl)))
  have SA := Sta.start (eqv_i (Term.int_eval (1)) (Cond.before_iff.mp (hsets _ (List.mem_of_getElem? (i := 12) rfl)))) (Or.inl (hsets _ (List.mem_of_getElem? (i := 11) rfl)))
  have SHB := Sta.start (eqv_i (Term.int_eval (0)) (Cond.before_iff.mp (hsets _ (List.mem_of_getElem? (i := 15) rfl)))) (Or.inl (hsets _ (List.mem_of_getElem? (i := 14) rfl)))
  have SLB := Sta.start (eqv_i (Term.int_eval (8)) (Cond.before_iff.mp (hsets _ (List.mem_of_getElem? (i := 18) rfl)))) (Or.inl (hsets _ (List.mem_of_getElem? (i := 17) rfl)))
  have hE : EW s #[.int i0, .int i1, .int i2, .int i3] ELx := own_hE hw
  have hC : CHv s ELx s.vm s.heap := own_start hE hcalls (hsets _ (List.mem_of_getElem? (i := 2) rfl)) (ow hw 19 rfl) (ow hw 6 rfl)
  obtain ⟨n, o, h1, h2, h3, _, L, rfl, ⟨N, -, -, rfl⟩, -, hq⟩ := rm_law l s _ hw hE i0 i1 i2 i3 zc fm s.heap ⟨Nat.le_refl _, fun _ _ q => q⟩ SC hzc SF hfm SA SHB SLB p e ha hc hk s m _ below hf ((Spec.applies_iff_loose hf).mp happ).1 ⟨rfl, State.Warmed39.refl s, rfl, hC, (fun _ hq => nomatch hq)⟩ trivial
  have hq : ReturnedEndW s _ _ L room_1.cells room_1.slots := hq
  exact ⟨n, _, h1, h2, h3, hpost _ _ _ _ _ _ ⟨Cond.after_iff.mpr rfl, Cond.after_iff.mpr (eq_i res_at (Term.int_eval (1)) rfl), trivial⟩ ⟨hq.1, hq.2.1, hq.2.2.1, (hq.2.2.2.sift fun y hy => Or.inr (N y hy)).mono (by decide) (by decide)⟩⟩
theorem main_1_1 : Claimed_1_1 := comes_1 fun _ _ _ _ _ _ h hF => ⟨h.1, hF⟩
theorem main_1_2 : Claimed_1_2 := comes_1 fun _ _ _ _ _ _ h hF => ⟨h.2.1, hF⟩
end Jvm.Pilot.@@N@@
namespace Jvm.Pilot.@@N@@
open Jvm Jvm.ClassFile Sem Op Lib Jvm.Free Jvm.Stand Jvm.Pilot.@@N@@.Jvm.D
/-! MADE BY PROGRAM (witnessworld.py) out of the Statement's table words and the real class files: 21 classes; the members and pool entries that the words name. The judged class is class 1, her method 3. -/
namespace start1
open Jvm.ClassFile
def u (s : String) : CpInfo := .utf8 (stringToUtf16 s)
/-- a pool by its gaps: so many unusable entries, then the entry; so many at the end -/
def gap : Nat → List CpInfo → List CpInfo
  | 0, r => r
  | n + 1, r => .unusable :: gap n r
def poolList (es : List (Nat × CpInfo)) (last : Nat) : List CpInfo := es.foldr (fun e r => gap e.1 (e.2 :: r)) (gap last [])
def pool (es : List (Nat × CpInfo)) (last : Nat) : Array CpInfo := ⟨poolList es last⟩
def fileOf (pool : Array CpInfo) (this : Nat) (attrs : Array Attribute := #[]) (ms : Array MethodInfo := #[]) (fl : Nat := 33) (sup : Nat := 0) (ifs : Array Nat := #[]) (fds : Array FieldInfo := #[]) : ClassFile where
  minorVersion := 0
  majorVersion := 65
  constantPool := pool
  accessFlags := fl
  thisClass := this
  superClass := sup
  interfaces := ifs
  fields := fds
  methods := ms
  attributes := attrs
def plain (name : String) (sup : Option ClassId) : Class where
  name := name
  kind := .ordinary
  loader := none
  accessFlags := 33
  super := sup
  interfaces := #[]
  cf := none
  fields := #[]
  methods := #[]
  instanceTypes := #[]
  staticTypes := #[]
  resolved := #[]
  callSites := []
  init := .initialized
  statics := none
  mirror := none

def pool0 : Array CpInfo := pool [(5, u "<init>"), (0, u "()V"), (1, .class_ 10), (1, u "java/lang/Object")] 113

def k0c0 : Code := { maxStack := 0, maxLocals := 1, code := object_method_1_code, exceptionTable := #[], attributes := #[] }
def k0m0 : Method := { name := "<init>", desc := "()V", sig := { parameters := [], returnType := none }, accessFlags := 1, code := some k0c0 }
/-- java/lang/Object -/
def k0 : Class := { plain "java/lang/Object" none with
  accessFlags := 33
  interfaces := #[]
  cf := some (fileOf pool0 8 #[] #[{ accessFlags := 1, nameIndex := 5, descriptorIndex := 6, attributes := #[] }] 33 0 #[] #[])
  fields := #[]
  methods := #[k0m0]
  instanceTypes := #[]
  staticTypes := #[]
  resolved := Array.replicate 124 none
  statics := none }

def pool1 : Array CpInfo := pool [(2, .class_ 4), (1, u "java/lang/Object"), (0, u "<init>"), (0, u "()V"), (0, .integer 65535), (0, .methodref 9 10), (0, .class_ 11), (0, .nameAndType 12 13), (0, u "com/example/brokerward/brokerward/rules/TopicFilterIsValidTopicNamePinLaw"), (0, u "pick"), (0, u "(I)C"), (0, .class_ 15), (0, u "java/lang/String"), (0, .methodref 14 17), (0, .nameAndType 5 18), (0, u "([C)V"), (0, .methodref 9 20), (0, .nameAndType 21 22), (0, u "bad"), (0, u "(C)Z"), (0, .methodref 24 25), (0, .class_ 26), (0, .nameAndType 27 28), (0, u "com/example/brokerward/brokerward/rules/TopicFilter"), (0, u "isValidTopicName"), (0, u "(Ljava/lang/String;)Z"), (3, u "law"), (0, u "(IIII)Z")] 4

def k1m0 : Method := { name := "<init>", desc := "()V", sig := { parameters := [], returnType := none }, accessFlags := 1, code := none }
def k1c1 : Code := { maxStack := 2, maxLocals := 2, code := method_2_code, exceptionTable := #[], attributes := #[] }
def k1m1 : Method := { name := "pick", desc := "(I)C", sig := { parameters := [.int], returnType := some .char }, accessFlags := 10, code := some k1c1 }
def k1c2 : Code := { maxStack := 2, maxLocals := 1, code := method_3_code, exceptionTable := #[], attributes := #[] }
def k1m2 : Method := { name := "bad", desc := "(C)Z", sig := { parameters := [.char], returnType := some .boolean }, accessFlags := 10, code := some k1c2 }
def k1c3 : Code := { maxStack := 4, maxLocals := 11, code := code, exceptionTable := #[], attributes := #[] }
def k1m3 : Method := { name := "law", desc := "(IIII)Z", sig := { parameters := [.int, .int, .int, .int], returnType := some .boolean }, accessFlags := 9, code := some k1c3 }
/-- com/example/brokerward/brokerward/rules/TopicFilterIsValidTopicNamePinLaw -/
def k1 : Class := { plain "com/example/brokerward/brokerward/rules/TopicFilterIsValidTopicNamePinLaw" (some 0) with
  accessFlags := 49
  interfaces := #[]
  cf := some (fileOf pool1 9 #[] #[{ accessFlags := 1, nameIndex := 5, descriptorIndex := 6, attributes := #[] }, { accessFlags := 10, nameIndex := 12, descriptorIndex := 13, attributes := #[] }, { accessFlags := 10, nameIndex := 21, descriptorIndex := 22, attributes := #[] }, { accessFlags := 9, nameIndex := 32, descriptorIndex := 33, attributes := #[] }] 49 2 #[] #[])
  fields := #[]
  methods := #[k1m0, k1m1, k1m2, k1m3]
  instanceTypes := #[]
  staticTypes := #[]
  resolved := Array.replicate 38 none
  statics := none }

def pool2 : Array CpInfo := pool [(1, .class_ 2), (0, u "java/io/Serializable"), (0, .class_ 4), (0, u "java/lang/Object")] 2

/-- java/io/Serializable -/
def k2 : Class := { plain "java/io/Serializable" (some 0) with
  accessFlags := 1537
  interfaces := #[]
  cf := some (fileOf pool2 1 #[] #[] 1537 3 #[] #[])
  fields := #[]
  methods := #[]
  instanceTypes := #[]
  staticTypes := #[]
  resolved := Array.replicate 7 none
  statics := none }

def pool3 : Array CpInfo := pool [(1, .class_ 2), (0, u "java/lang/Comparable"), (0, .class_ 4), (0, u "java/lang/Object")] 7

/-- java/lang/Comparable -/
def k3 : Class := { plain "java/lang/Comparable" (some 0) with
  accessFlags := 1537
  interfaces := #[]
  cf := some (fileOf pool3 1 #[] #[] 1537 3 #[] #[])
  fields := #[]
  methods := #[]
  instanceTypes := #[]
  staticTypes := #[]
  resolved := Array.replicate 12 none
  statics := none }

def pool4 : Array CpInfo := pool [(2, .class_ 4), (1, u "java/lang/CharSequence"), (42, .class_ 48), (0, u "java/lang/CharSequence$1CodePointIterator"), (10, .class_ 60), (0, u "java/lang/CharSequence$1CharIterator"), (5, .class_ 67), (0, u "java/lang/Object")] 63

/-- java/lang/CharSequence -/
def k4 : Class := { plain "java/lang/CharSequence" (some 0) with
  accessFlags := 1537
  interfaces := #[]
  cf := some (fileOf pool4 2 #[.nestMembers #[47, 59]] #[] 1537 66 #[] #[])
  fields := #[]
  methods := #[]
  instanceTypes := #[]
  staticTypes := #[]
  resolved := Array.replicate 131 none
  statics := none }

def pool5 : Array CpInfo := pool [(1, .class_ 2), (0, u "java/lang/constant/Constable"), (0, .class_ 4), (0, u "java/lang/Object")] 6

/-- java/lang/constant/Constable -/
def k5 : Class := { plain "java/lang/constant/Constable" (some 0) with
  accessFlags := 1537
  interfaces := #[]
  cf := some (fileOf pool5 1 #[] #[] 1537 3 #[] #[])
  fields := #[]
  methods := #[]
  instanceTypes := #[]
  staticTypes := #[]
  resolved := Array.replicate 11 none
  statics := none }

def pool6 : Array CpInfo := pool [(1, .class_ 2), (0, u "java/lang/constant/ConstantDesc"), (0, .class_ 4), (0, u "java/lang/Object")] 32

/-- java/lang/constant/ConstantDesc -/
def k6 : Class := { plain "java/lang/constant/ConstantDesc" (some 0) with
  accessFlags := 1537
  interfaces := #[]
  cf := some (fileOf pool6 1 #[] #[] 1537 3 #[] #[])
  fields := #[]
  methods := #[]
  instanceTypes := #[]
  staticTypes := #[]
  resolved := Array.replicate 37 none
  statics := none }

def pool7 : Array CpInfo := pool [(1, .methodref 2 3), (0, .class_ 4), (0, .nameAndType 5 6), (0, u "java/lang/Object"), (0, u "<init>"), (0, u "()V"), (0, .string 8), (0, u ""), (0, .fieldref 10 11), (0, .class_ 12), (0, .nameAndType 13 14), (0, u "java/lang/String"), (0, u "value"), (0, u "[B"), (0, .fieldref 10 16), (0, .nameAndType 17 18), (0, u "coder"), (0, u "B"), (2, u "hash"), (0, u "I"), (2, u "hashIsZero"), (0, u "Z"), (0, .methodref 10 28), (0, .nameAndType 5 29), (0, u "([CIILjava/lang/Void;)V"), (8, .fieldref 10 39), (0, .nameAndType 40 26), (0, u "COMPACT_STRINGS"), (1, .class_ 44), (1, u "java/lang/StringUTF16"), (0, u "compress"), (1, .methodref 42 48), (0, .nameAndType 49 50), (0, u "coderFromArrayLen"), (0, u "([BI)B"), (56, .class_ 109), (1, u "java/lang/StringLatin1"), (32, u "()Z"), (34, .methodref 42 178), (0, .nameAndType 45 179), (0, u "([CII)[B"), (154, u "()I"), (0, .methodref 10 336), (0, .nameAndType 17 337), (0, u "()B"), (154, .methodref 10 493), (0, .nameAndType 494 142), (0, u "isLatin1"), (10, .methodref 10 506), (0, .nameAndType 507 334), (0, u "length"), (5, u "checkFromToIndex"), (9, u "checkBoundsBeginEnd"), (0, u "(III)V"), (50, .class_ 576), (0, u "java/lang/CharSequence"), (22, u "CASE_INSENSITIVE_ORDER"), (0, u "Ljava/util/Comparator;"), (32, .methodref 10 634), (0, .nameAndType 635 636), (0, u "indexOf"), (0, u "(II)I"), (0, .methodref 107 638), (0, .nameAndType 635 639), (0, u "([BIII)I"), (0, .methodref 42 638), (51, u "isEmpty"), (72, u "(I)I"), (244, u "([C)V"), (42, .fieldref 1054 1055), (0, .class_ 1056), (0, .nameAndType 1057 1058), (0, u "jdk/internal/util/Preconditions"), (0, u "SIOOBE_FORMATTER"), (0, u "Ljava/util/function/BiFunction;"), (3, .methodref 1054 1063), (0, .nameAndType 513 1064), (0, u "(IIILjava/util/function/BiFunction;)I"), (36, u "serialPersistentFields"), (0, u "[Ljava/io/ObjectStreamField;"), (0, .class_ 1104), (0, u "java/lang/String$CaseInsensitiveComparator"), (1, .class_ 1107), (0, u "java/io/Serializable"), (0, .class_ 1109), (0, u "java/lang/Comparable"), (0, .class_ 1111), (0, u "java/lang/constant/Constable"), (0, .class_ 1113), (0, u "java/lang/constant/ConstantDesc"), (2, u "serialVersionUID"), (0, u "J"), (3, u "REPL"), (0, u "C"), (2, u "LATIN1"), (1, u "UTF16")] 323

def k7m0 : Method := { name := "<init>", desc := "()V", sig := { parameters := [], returnType := none }, accessFlags := 1, code := none }
def k7c1 : Code := { maxStack := 5, maxLocals := 2, code := jdk_42_method_3_code, exceptionTable := #[], attributes := #[] }
def k7m1 : Method := { name := "<init>", desc := "([C)V", sig := { parameters := [(.array .char)], returnType := none }, accessFlags := 1, code := some k7c1 }
def k7c2 : Code := { maxStack := 2, maxLocals := 1, code := jdk_42_method_54_code, exceptionTable := #[], attributes := #[] }
def k7m2 : Method := { name := "length", desc := "()I", sig := { parameters := [], returnType := some .int }, accessFlags := 1, code := some k7c2 }
def k7c3 : Code := { maxStack := 1, maxLocals := 1, code := jdk_42_method_55_code, exceptionTable := #[], attributes := #[] }
def k7m3 : Method := { name := "isEmpty", desc := "()Z", sig := { parameters := [], returnType := some .boolean }, accessFlags := 1, code := some k7c3 }
def k7c4 : Code := { maxStack := 3, maxLocals := 2, code := jdk_42_method_79_code, exceptionTable := #[], attributes := #[] }
def k7m4 : Method := { name := "indexOf", desc := "(I)I", sig := { parameters := [.int], returnType := some .int }, accessFlags := 1, code := some k7c4 }
def k7c5 : Code := { maxStack := 4, maxLocals := 3, code := jdk_42_method_80_code, exceptionTable := #[], attributes := #[] }
def k7m5 : Method := { name := "indexOf", desc := "(II)I", sig := { parameters := [.int, .int], returnType := some .int }, accessFlags := 1, code := some k7c5 }
def k7c6 : Code := { maxStack := 4, maxLocals := 6, code := jdk_42_method_149_code, exceptionTable := #[], attributes := #[] }
def k7m6 : Method := { name := "<init>", desc := "([CIILjava/lang/Void;)V", sig := { parameters := [(.array .char), .int, .int, (.object "java/lang/Void")], returnType := none }, accessFlags := 2, code := some k7c6 }
def k7c7 : Code := { maxStack := 1, maxLocals := 1, code := jdk_42_method_152_code, exceptionTable := #[], attributes := #[] }
def k7m7 : Method := { name := "coder", desc := "()B", sig := { parameters := [], returnType := some .byte }, accessFlags := 0, code := some k7c7 }
def k7c8 : Code := { maxStack := 1, maxLocals := 1, code := jdk_42_method_154_code, exceptionTable := #[], attributes := #[] }
def k7m8 : Method := { name := "isLatin1", desc := "()Z", sig := { parameters := [], returnType := some .boolean }, accessFlags := 0, code := some k7c8 }
def k7c9 : Code := { maxStack := 4, maxLocals := 3, code := jdk_42_method_158_code, exceptionTable := #[], attributes := #[] }
def k7m9 : Method := { name := "checkBoundsBeginEnd", desc := "(III)V", sig := { parameters := [.int, .int, .int], returnType := none }, accessFlags := 8, code := some k7c9 }
/-- java/lang/String -/
def k7 : Class := { plain "java/lang/String" (some 0) with
  accessFlags := 49
  interfaces := #[2, 3, 4, 5, 6]
  cf := some (fileOf pool7 10 #[.nestMembers #[1103]] #[{ accessFlags := 1, nameIndex := 5, descriptorIndex := 6, attributes := #[] }, { accessFlags := 1, nameIndex := 5, descriptorIndex := 1010, attributes := #[] }, { accessFlags := 1, nameIndex := 507, descriptorIndex := 334, attributes := #[] }, { accessFlags := 1, nameIndex := 692, descriptorIndex := 142, attributes := #[] }, { accessFlags := 1, nameIndex := 635, descriptorIndex := 765, attributes := #[] }, { accessFlags := 1, nameIndex := 635, descriptorIndex := 636, attributes := #[] }, { accessFlags := 2, nameIndex := 5, descriptorIndex := 29, attributes := #[] }, { accessFlags := 0, nameIndex := 17, descriptorIndex := 337, attributes := #[] }, { accessFlags := 0, nameIndex := 494, descriptorIndex := 142, attributes := #[] }, { accessFlags := 8, nameIndex := 523, descriptorIndex := 524, attributes := #[] }] 49 2 #[1106, 1108, 575, 1110, 1112] #[{ accessFlags := 18, nameIndex := 13, descriptorIndex := 14, attributes := #[] }, { accessFlags := 18, nameIndex := 17, descriptorIndex := 18, attributes := #[] }, { accessFlags := 2, nameIndex := 21, descriptorIndex := 22, attributes := #[] }, { accessFlags := 2, nameIndex := 25, descriptorIndex := 26, attributes := #[] }, { accessFlags := 26, nameIndex := 1116, descriptorIndex := 1117, attributes := #[] }, { accessFlags := 24, nameIndex := 40, descriptorIndex := 26, attributes := #[] }, { accessFlags := 26, nameIndex := 1101, descriptorIndex := 1102, attributes := #[] }, { accessFlags := 26, nameIndex := 1121, descriptorIndex := 1122, attributes := #[] }, { accessFlags := 25, nameIndex := 599, descriptorIndex := 600, attributes := #[] }, { accessFlags := 24, nameIndex := 1125, descriptorIndex := 18, attributes := #[] }, { accessFlags := 24, nameIndex := 1127, descriptorIndex := 18, attributes := #[] }])
  fields := #[{ name := "value", type := (.array .byte), accessFlags := 18, slot := 0, constantValue := 0 }, { name := "coder", type := .byte, accessFlags := 18, slot := 1, constantValue := 0 }, { name := "hash", type := .int, accessFlags := 2, slot := 2, constantValue := 0 }, { name := "hashIsZero", type := .boolean, accessFlags := 2, slot := 3, constantValue := 0 }, { name := "serialVersionUID", type := .long, accessFlags := 26, slot := 0, constantValue := 0 }, { name := "COMPACT_STRINGS", type := .boolean, accessFlags := 24, slot := 1, constantValue := 0 }, { name := "serialPersistentFields", type := (.array (.object "java/io/ObjectStreamField")), accessFlags := 26, slot := 2, constantValue := 0 }, { name := "REPL", type := .char, accessFlags := 26, slot := 3, constantValue := 0 }, { name := "CASE_INSENSITIVE_ORDER", type := (.object "java/util/Comparator"), accessFlags := 25, slot := 4, constantValue := 0 }, { name := "LATIN1", type := .byte, accessFlags := 24, slot := 5, constantValue := 0 }, { name := "UTF16", type := .byte, accessFlags := 24, slot := 6, constantValue := 0 }]
  methods := #[k7m0, k7m1, k7m2, k7m3, k7m4, k7m5, k7m6, k7m7, k7m8, k7m9]
  instanceTypes := #[(.array .byte), .byte, .int, .boolean]
  staticTypes := #[.long, .boolean, (.array (.object "java/io/ObjectStreamField")), .char, (.object "java/util/Comparator"), .byte, .byte]
  resolved := Array.replicate 1451 none
  statics := some 0 }

def pool8 : Array CpInfo := pool [(2, .class_ 4), (1, u "java/lang/Object"), (3, .class_ 10), (1, u "com/example/brokerward/brokerward/rules/TopicFilter"), (0, u "text"), (0, u "Ljava/lang/String;"), (10, .methodref 24 25), (0, .class_ 26), (0, .nameAndType 27 28), (0, u "java/lang/String"), (0, u "isEmpty"), (0, u "()Z"), (0, .methodref 8 30), (0, .nameAndType 31 32), (0, u "hasWildcard"), (0, u "(Ljava/lang/String;)Z"), (0, .methodref 24 34), (0, .nameAndType 35 36), (0, u "indexOf"), (0, u "(I)I"), (75, u "SINGLE_LEVEL"), (1, u "MULTI_LEVEL"), (6, u "isValidTopicName")] 4

def k8c0 : Code := { maxStack := 2, maxLocals := 1, code := prog_53_method_4_code, exceptionTable := #[], attributes := #[] }
def k8m0 : Method := { name := "isValidTopicName", desc := "(Ljava/lang/String;)Z", sig := { parameters := [(.object "java/lang/String")], returnType := some .boolean }, accessFlags := 9, code := some k8c0 }
def k8c1 : Code := { maxStack := 2, maxLocals := 1, code := prog_53_method_5_code, exceptionTable := #[], attributes := #[] }
def k8m1 : Method := { name := "hasWildcard", desc := "(Ljava/lang/String;)Z", sig := { parameters := [(.object "java/lang/String")], returnType := some .boolean }, accessFlags := 10, code := some k8c1 }
/-- com/example/brokerward/brokerward/rules/TopicFilter -/
def k8 : Class := { plain "com/example/brokerward/brokerward/rules/TopicFilter" (some 0) with
  accessFlags := 49
  interfaces := #[]
  cf := some (fileOf pool8 8 #[] #[{ accessFlags := 9, nameIndex := 121, descriptorIndex := 32, attributes := #[] }, { accessFlags := 10, nameIndex := 31, descriptorIndex := 32, attributes := #[] }] 49 2 #[] #[{ accessFlags := 26, nameIndex := 112, descriptorIndex := 12, attributes := #[] }, { accessFlags := 26, nameIndex := 114, descriptorIndex := 12, attributes := #[] }, { accessFlags := 18, nameIndex := 11, descriptorIndex := 12, attributes := #[] }])
  fields := #[{ name := "SINGLE_LEVEL", type := (.object "java/lang/String"), accessFlags := 26, slot := 0, constantValue := 0 }, { name := "MULTI_LEVEL", type := (.object "java/lang/String"), accessFlags := 26, slot := 1, constantValue := 0 }, { name := "text", type := (.object "java/lang/String"), accessFlags := 18, slot := 0, constantValue := 0 }]
  methods := #[k8m0, k8m1]
  instanceTypes := #[(.object "java/lang/String")]
  staticTypes := #[(.object "java/lang/String"), (.object "java/lang/String")]
  resolved := Array.replicate 126 none
  statics := none }

def pool9 : Array CpInfo := pool [(3, .class_ 4), (0, u "java/lang/String"), (1, .class_ 8), (1, u "java/lang/Object"), (0, u "<init>"), (0, u "()V"), (0, .methodref 12 13), (0, .class_ 14), (0, .nameAndType 15 16), (0, u "java/lang/StringUTF16"), (0, u "newBytesLength"), (0, u "(I)I"), (3, .integer 1073741823), (23, .fieldref 12 45), (0, .nameAndType 46 47), (0, u "$assertionsDisabled"), (0, u "Z"), (0, .methodref 12 49), (0, .nameAndType 50 51), (0, u "length"), (0, u "([B)I"), (7, .fieldref 12 60), (0, .nameAndType 61 62), (0, u "HI_BYTE_SHIFT"), (0, u "I"), (0, .fieldref 12 64), (0, .nameAndType 65 62), (0, u "LO_BYTE_SHIFT"), (5, .methodref 12 72), (0, .nameAndType 73 74), (0, u "getChar"), (0, u "([BI)C"), (21, .methodref 12 97), (0, .nameAndType 98 99), (0, u "checkBoundsBeginEnd"), (0, u "(II[B)V"), (7, .methodref 12 108), (0, .nameAndType 109 110), (0, u "newBytesFor"), (0, u "(I)[B"), (0, .methodref 12 112), (0, .nameAndType 113 114), (0, u "putChar"), (0, u "([BII)V"), (0, .methodref 12 116), (0, .nameAndType 117 118), (0, u "compress"), (0, u "([CI[BII)I"), (0, .methodref 12 120), (0, .nameAndType 121 122), (0, u "toBytes"), (0, u "([CII)[B"), (60, .methodref 184 185), (0, .class_ 186), (0, .nameAndType 187 188), (0, u "java/lang/Math"), (0, u "min"), (0, u "(II)I"), (35, .methodref 184 225), (0, .nameAndType 226 188), (0, u "max"), (0, .integer 65536), (0, .methodref 12 229), (0, .nameAndType 230 231), (0, u "indexOfChar"), (0, u "([BIII)I"), (9, .methodref 3 242), (0, .nameAndType 98 243), (0, u "(III)V"), (0, .methodref 12 245), (0, .nameAndType 246 231), (0, u "indexOfCharUnsafe"), (14, u "coderFromArrayLen"), (0, u "([BI)B"), (5, u "indexOf"), (100, .class_ 371), (1, u "java/lang/StringUTF16$LinesSpliterator"), (58, u "MAX_LENGTH"), (196, .class_ 628), (0, u "java/lang/StringUTF16$CodePointsSpliterator"), (0, .class_ 630), (0, u "java/lang/StringUTF16$CharsSpliterator")] 4

def k9m0 : Method := { name := "<init>", desc := "()V", sig := { parameters := [], returnType := none }, accessFlags := 0, code := none }
def k9c1 : Code := { maxStack := 1, maxLocals := 1, code := jdk_52_method_2_code, exceptionTable := #[], attributes := #[] }
def k9m1 : Method := { name := "newBytesFor", desc := "(I)[B", sig := { parameters := [.int], returnType := some (.array .byte) }, accessFlags := 9, code := some k9c1 }
def k9c2 : Code := { maxStack := 4, maxLocals := 1, code := jdk_52_method_3_code, exceptionTable := #[], attributes := #[] }
def k9m2 : Method := { name := "newBytesLength", desc := "(I)I", sig := { parameters := [.int], returnType := some .int }, accessFlags := 9, code := some k9c2 }
def k9c3 : Code := { maxStack := 4, maxLocals := 3, code := jdk_52_method_4_code, exceptionTable := #[], attributes := #[] }
def k9m3 : Method := { name := "putChar", desc := "([BII)V", sig := { parameters := [(.array .byte), .int, .int], returnType := none }, accessFlags := 8, code := some k9c3 }
def k9c4 : Code := { maxStack := 3, maxLocals := 2, code := jdk_52_method_5_code, exceptionTable := #[], attributes := #[] }
def k9m4 : Method := { name := "getChar", desc := "([BI)C", sig := { parameters := [(.array .byte), .int], returnType := some .char }, accessFlags := 8, code := some k9c4 }
def k9c5 : Code := { maxStack := 2, maxLocals := 1, code := jdk_52_method_6_code, exceptionTable := #[], attributes := #[] }
def k9m5 : Method := { name := "length", desc := "([B)I", sig := { parameters := [(.array .byte)], returnType := some .int }, accessFlags := 9, code := some k9c5 }
def k9c6 : Code := { maxStack := 4, maxLocals := 5, code := jdk_52_method_14_code, exceptionTable := #[], attributes := #[] }
def k9m6 : Method := { name := "toBytes", desc := "([CII)[B", sig := { parameters := [(.array .char), .int, .int], returnType := some (.array .byte) }, accessFlags := 9, code := some k9c6 }
def k9c7 : Code := { maxStack := 2, maxLocals := 2, code := jdk_52_method_15_code, exceptionTable := #[], attributes := #[] }
def k9m7 : Method := { name := "coderFromArrayLen", desc := "([BI)B", sig := { parameters := [(.array .byte), .int], returnType := some .byte }, accessFlags := 8, code := some k9c7 }
def k9c8 : Code := { maxStack := 5, maxLocals := 6, code := jdk_52_method_16_code, exceptionTable := #[], attributes := #[] }
def k9m8 : Method := { name := "compress", desc := "([CII)[B", sig := { parameters := [(.array .char), .int, .int], returnType := some (.array .byte) }, accessFlags := 9, code := some k9c8 }
def k9c9 : Code := { maxStack := 3, maxLocals := 7, code := jdk_52_method_21_code, exceptionTable := #[], attributes := #[] }
def k9m9 : Method := { name := "compress", desc := "([CI[BII)I", sig := { parameters := [(.array .char), .int, (.array .byte), .int, .int], returnType := some .int }, accessFlags := 9, code := some k9c9 }
def k9c10 : Code := { maxStack := 4, maxLocals := 4, code := jdk_52_method_40_code, exceptionTable := #[], attributes := #[] }
def k9m10 : Method := { name := "indexOf", desc := "([BIII)I", sig := { parameters := [(.array .byte), .int, .int, .int], returnType := some .int }, accessFlags := 9, code := some k9c10 }
def k9c11 : Code := { maxStack := 4, maxLocals := 4, code := jdk_52_method_47_code, exceptionTable := #[], attributes := #[] }
def k9m11 : Method := { name := "indexOfChar", desc := "([BIII)I", sig := { parameters := [(.array .byte), .int, .int, .int], returnType := some .int }, accessFlags := 10, code := some k9c11 }
def k9c12 : Code := { maxStack := 2, maxLocals := 5, code := jdk_52_method_48_code, exceptionTable := #[], attributes := #[] }
def k9m12 : Method := { name := "indexOfCharUnsafe", desc := "([BIII)I", sig := { parameters := [(.array .byte), .int, .int, .int], returnType := some .int }, accessFlags := 10, code := some k9c12 }
def k9c13 : Code := { maxStack := 3, maxLocals := 3, code := jdk_52_method_93_code, exceptionTable := #[], attributes := #[] }
def k9m13 : Method := { name := "checkBoundsBeginEnd", desc := "(II[B)V", sig := { parameters := [.int, .int, (.array .byte)], returnType := none }, accessFlags := 9, code := some k9c13 }
/-- java/lang/StringUTF16 -/
def k9 : Class := { plain "java/lang/StringUTF16" (some 0) with
  accessFlags := 48
  interfaces := #[]
  cf := some (fileOf pool9 12 #[.nestMembers #[627, 629, 369]] #[{ accessFlags := 0, nameIndex := 9, descriptorIndex := 10, attributes := #[] }, { accessFlags := 9, nameIndex := 109, descriptorIndex := 110, attributes := #[] }, { accessFlags := 9, nameIndex := 15, descriptorIndex := 16, attributes := #[] }, { accessFlags := 8, nameIndex := 113, descriptorIndex := 114, attributes := #[] }, { accessFlags := 8, nameIndex := 73, descriptorIndex := 74, attributes := #[] }, { accessFlags := 9, nameIndex := 50, descriptorIndex := 51, attributes := #[] }, { accessFlags := 9, nameIndex := 121, descriptorIndex := 122, attributes := #[] }, { accessFlags := 8, nameIndex := 261, descriptorIndex := 262, attributes := #[] }, { accessFlags := 9, nameIndex := 117, descriptorIndex := 122, attributes := #[] }, { accessFlags := 9, nameIndex := 117, descriptorIndex := 118, attributes := #[] }, { accessFlags := 9, nameIndex := 268, descriptorIndex := 231, attributes := #[] }, { accessFlags := 10, nameIndex := 230, descriptorIndex := 231, attributes := #[] }, { accessFlags := 10, nameIndex := 246, descriptorIndex := 231, attributes := #[] }, { accessFlags := 9, nameIndex := 98, descriptorIndex := 99, attributes := #[] }] 48 6 #[] #[{ accessFlags := 26, nameIndex := 61, descriptorIndex := 62, attributes := #[] }, { accessFlags := 26, nameIndex := 65, descriptorIndex := 62, attributes := #[] }, { accessFlags := 24, nameIndex := 430, descriptorIndex := 62, attributes := #[] }, { accessFlags := 4120, nameIndex := 46, descriptorIndex := 47, attributes := #[] }])
  fields := #[{ name := "HI_BYTE_SHIFT", type := .int, accessFlags := 26, slot := 0, constantValue := 0 }, { name := "LO_BYTE_SHIFT", type := .int, accessFlags := 26, slot := 1, constantValue := 0 }, { name := "MAX_LENGTH", type := .int, accessFlags := 24, slot := 2, constantValue := 0 }, { name := "$assertionsDisabled", type := .boolean, accessFlags := 4120, slot := 3, constantValue := 0 }]
  methods := #[k9m0, k9m1, k9m2, k9m3, k9m4, k9m5, k9m6, k9m7, k9m8, k9m9, k9m10, k9m11, k9m12, k9m13]
  instanceTypes := #[]
  staticTypes := #[.int, .int, .int, .boolean]
  resolved := Array.replicate 635 none
  statics := some 1 }

def pool10 : Array CpInfo := pool [(4, .class_ 6), (1, u "java/lang/Object"), (0, u "<init>"), (0, u "()V"), (5, .class_ 16), (1, u "java/lang/StringLatin1"), (21, .methodref 39 40), (0, .class_ 41), (0, .nameAndType 42 43), (0, u "java/lang/Math"), (0, u "min"), (0, u "(II)I"), (44, .methodref 14 89), (0, .nameAndType 90 91), (0, u "canEncode"), (0, u "(I)Z"), (0, .methodref 39 93), (0, .nameAndType 94 43), (0, u "max"), (0, .methodref 14 96), (0, .nameAndType 97 98), (0, u "indexOfChar"), (0, u "([BIII)I"), (2, u "indexOf"), (19, u "$assertionsDisabled"), (0, u "Z"), (98, .class_ 223), (1, u "java/lang/StringLatin1$LinesSpliterator"), (166, .class_ 391), (0, u "java/lang/StringLatin1$CharsSpliterator")] 3

def k10m0 : Method := { name := "<init>", desc := "()V", sig := { parameters := [], returnType := none }, accessFlags := 0, code := none }
def k10c1 : Code := { maxStack := 2, maxLocals := 1, code := jdk_43_method_4_code, exceptionTable := #[], attributes := #[] }
def k10m1 : Method := { name := "canEncode", desc := "(I)Z", sig := { parameters := [.int], returnType := some .boolean }, accessFlags := 9, code := some k10c1 }
def k10c2 : Code := { maxStack := 4, maxLocals := 4, code := jdk_43_method_22_code, exceptionTable := #[], attributes := #[] }
def k10m2 : Method := { name := "indexOf", desc := "([BIII)I", sig := { parameters := [(.array .byte), .int, .int, .int], returnType := some .int }, accessFlags := 9, code := some k10c2 }
def k10c3 : Code := { maxStack := 2, maxLocals := 6, code := jdk_43_method_23_code, exceptionTable := #[], attributes := #[] }
def k10m3 : Method := { name := "indexOfChar", desc := "([BIII)I", sig := { parameters := [(.array .byte), .int, .int, .int], returnType := some .int }, accessFlags := 10, code := some k10c3 }
/-- java/lang/StringLatin1 -/
def k10 : Class := { plain "java/lang/StringLatin1" (some 0) with
  accessFlags := 48
  interfaces := #[]
  cf := some (fileOf pool10 14 #[.nestMembers #[390, 221]] #[{ accessFlags := 0, nameIndex := 7, descriptorIndex := 8, attributes := #[] }, { accessFlags := 9, nameIndex := 90, descriptorIndex := 91, attributes := #[] }, { accessFlags := 9, nameIndex := 101, descriptorIndex := 98, attributes := #[] }, { accessFlags := 10, nameIndex := 97, descriptorIndex := 98, attributes := #[] }] 48 4 #[] #[{ accessFlags := 4120, nameIndex := 121, descriptorIndex := 122, attributes := #[] }])
  fields := #[{ name := "$assertionsDisabled", type := .boolean, accessFlags := 4120, slot := 0, constantValue := 0 }]
  methods := #[k10m0, k10m1, k10m2, k10m3]
  instanceTypes := #[]
  staticTypes := #[.boolean]
  resolved := Array.replicate 395 none
  statics := none }

def pool11 : Array CpInfo := pool [(1, .class_ 2), (0, u "java/lang/Math"), (1, .class_ 6), (1, u "java/lang/Object"), (0, u "<init>"), (0, u "()V"), (89, .class_ 100), (1, u "java/lang/Math$RandomNumberGeneratorHolder"), (71, u "negativeZeroFloatBits"), (0, u "J"), (2, u "negativeZeroDoubleBits"), (21, u "max"), (2, u "min"), (43, u "$assertionsDisabled"), (0, u "Z"), (88, u "(II)I"), (2, u "twoToTheDoubleScaleDown"), (0, u "D"), (4, u "twoToTheDoubleScaleUp"), (9, u "E"), (3, u "PI"), (2, u "TAU"), (2, u "DEGREES_TO_RADIANS"), (0, u "RADIANS_TO_DEGREES")] 94

def k11m0 : Method := { name := "<init>", desc := "()V", sig := { parameters := [], returnType := none }, accessFlags := 2, code := none }
def k11c1 : Code := { maxStack := 2, maxLocals := 2, code := jdk_29_method_65_code, exceptionTable := #[], attributes := #[] }
def k11m1 : Method := { name := "max", desc := "(II)I", sig := { parameters := [.int, .int], returnType := some .int }, accessFlags := 9, code := some k11c1 }
def k11c2 : Code := { maxStack := 2, maxLocals := 2, code := jdk_29_method_69_code, exceptionTable := #[], attributes := #[] }
def k11m2 : Method := { name := "min", desc := "(II)I", sig := { parameters := [.int, .int], returnType := some .int }, accessFlags := 9, code := some k11c2 }
/-- java/lang/Math -/
def k11 : Class := { plain "java/lang/Math" (some 0) with
  accessFlags := 49
  interfaces := #[]
  cf := some (fileOf pool11 1 #[.nestMembers #[98]] #[{ accessFlags := 2, nameIndex := 7, descriptorIndex := 8, attributes := #[] }, { accessFlags := 9, nameIndex := 198, descriptorIndex := 335, attributes := #[] }, { accessFlags := 9, nameIndex := 201, descriptorIndex := 335, attributes := #[] }] 49 4 #[] #[{ accessFlags := 25, nameIndex := 354, descriptorIndex := 339, attributes := #[] }, { accessFlags := 25, nameIndex := 358, descriptorIndex := 339, attributes := #[] }, { accessFlags := 25, nameIndex := 361, descriptorIndex := 339, attributes := #[] }, { accessFlags := 26, nameIndex := 364, descriptorIndex := 339, attributes := #[] }, { accessFlags := 26, nameIndex := 365, descriptorIndex := 339, attributes := #[] }, { accessFlags := 26, nameIndex := 172, descriptorIndex := 173, attributes := #[] }, { accessFlags := 26, nameIndex := 176, descriptorIndex := 173, attributes := #[] }, { accessFlags := 8, nameIndex := 344, descriptorIndex := 339, attributes := #[] }, { accessFlags := 8, nameIndex := 338, descriptorIndex := 339, attributes := #[] }, { accessFlags := 4120, nameIndex := 245, descriptorIndex := 246, attributes := #[] }])
  fields := #[{ name := "E", type := .double, accessFlags := 25, slot := 0, constantValue := 0 }, { name := "PI", type := .double, accessFlags := 25, slot := 1, constantValue := 0 }, { name := "TAU", type := .double, accessFlags := 25, slot := 2, constantValue := 0 }, { name := "DEGREES_TO_RADIANS", type := .double, accessFlags := 26, slot := 3, constantValue := 0 }, { name := "RADIANS_TO_DEGREES", type := .double, accessFlags := 26, slot := 4, constantValue := 0 }, { name := "negativeZeroFloatBits", type := .long, accessFlags := 26, slot := 5, constantValue := 0 }, { name := "negativeZeroDoubleBits", type := .long, accessFlags := 26, slot := 6, constantValue := 0 }, { name := "twoToTheDoubleScaleUp", type := .double, accessFlags := 8, slot := 7, constantValue := 0 }, { name := "twoToTheDoubleScaleDown", type := .double, accessFlags := 8, slot := 8, constantValue := 0 }, { name := "$assertionsDisabled", type := .boolean, accessFlags := 4120, slot := 9, constantValue := 0 }]
  methods := #[k11m0, k11m1, k11m2]
  instanceTypes := #[]
  staticTypes := #[.double, .double, .double, .double, .double, .long, .long, .double, .double, .boolean]
  resolved := Array.replicate 460 none
  statics := none }

def pool12 : Array CpInfo := pool [(2, .class_ 4), (1, u "java/lang/Object"), (0, u "<init>"), (0, u "()V"), (17, .class_ 26), (1, u "jdk/internal/util/Preconditions"), (20, u "checkFromToIndex"), (7, .class_ 56), (0, u "jdk/internal/util/Preconditions$4"), (57, .class_ 115), (0, u "jdk/internal/util/Preconditions$1"), (7, u "SIOOBE_FORMATTER"), (0, u "Ljava/util/function/BiFunction;"), (0, .class_ 126), (0, u "jdk/internal/util/Preconditions$2"), (3, u "AIOOBE_FORMATTER"), (0, .class_ 132), (0, u "jdk/internal/util/Preconditions$3"), (3, u "IOOBE_FORMATTER"), (46, u "(IIILjava/util/function/BiFunction;)I")] 10

def k12m0 : Method := { name := "<init>", desc := "()V", sig := { parameters := [], returnType := none }, accessFlags := 1, code := none }
def k12c1 : Code := { maxStack := 4, maxLocals := 4, code := jdk_41_method_12_code, exceptionTable := #[], attributes := #[] }
def k12m1 : Method := { name := "checkFromToIndex", desc := "(IIILjava/util/function/BiFunction;)I", sig := { parameters := [.int, .int, .int, (.object "java/util/function/BiFunction")], returnType := some .int }, accessFlags := 9, code := some k12c1 }
/-- jdk/internal/util/Preconditions -/
def k12 : Class := { plain "jdk/internal/util/Preconditions" (some 0) with
  accessFlags := 33
  interfaces := #[]
  cf := some (fileOf pool12 24 #[.nestMembers #[55, 131, 125, 114]] #[{ accessFlags := 1, nameIndex := 5, descriptorIndex := 6, attributes := #[] }, { accessFlags := 9, nameIndex := 47, descriptorIndex := 183, attributes := #[] }] 33 2 #[] #[{ accessFlags := 25, nameIndex := 123, descriptorIndex := 124, attributes := #[] }, { accessFlags := 25, nameIndex := 130, descriptorIndex := 124, attributes := #[] }, { accessFlags := 25, nameIndex := 136, descriptorIndex := 124, attributes := #[] }])
  fields := #[{ name := "SIOOBE_FORMATTER", type := (.object "java/util/function/BiFunction"), accessFlags := 25, slot := 0, constantValue := 0 }, { name := "AIOOBE_FORMATTER", type := (.object "java/util/function/BiFunction"), accessFlags := 25, slot := 1, constantValue := 0 }, { name := "IOOBE_FORMATTER", type := (.object "java/util/function/BiFunction"), accessFlags := 25, slot := 2, constantValue := 0 }]
  methods := #[k12m0, k12m1]
  instanceTypes := #[]
  staticTypes := #[(.object "java/util/function/BiFunction"), (.object "java/util/function/BiFunction"), (.object "java/util/function/BiFunction")]
  resolved := Array.replicate 194 none
  statics := some 2 }

def pool13 : Array CpInfo := pool [(9, u "<init>"), (6, .class_ 18), (1, u "java/lang/Object"), (0, u "()V"), (1, .class_ 23), (1, u "jdk/internal/util/ArraysSupport"), (0, u "LOG2_ARRAY_LONG_INDEX_SCALE"), (0, u "I"), (2, u "U"), (0, u "Ljdk/internal/misc/Unsafe;"), (8, u "BIG_ENDIAN"), (0, u "Z"), (8, u "LOG2_BYTE_BIT_SIZE"), (4, u "LOG2_ARRAY_INT_INDEX_SCALE"), (54, u "JLA"), (0, u "Ljdk/internal/access/JavaLangAccess;"), (11, u "LOG2_ARRAY_BOOLEAN_INDEX_SCALE"), (9, u "LOG2_ARRAY_BYTE_INDEX_SCALE"), (5, u "LOG2_ARRAY_CHAR_INDEX_SCALE"), (5, u "LOG2_ARRAY_SHORT_INDEX_SCALE"), (18, u "LOG2_ARRAY_FLOAT_INDEX_SCALE"), (24, u "LOG2_ARRAY_DOUBLE_INDEX_SCALE"), (89, u "T_BOOLEAN"), (2, u "T_CHAR"), (1, u "T_FLOAT"), (1, u "T_DOUBLE"), (1, u "T_BYTE"), (1, u "T_SHORT"), (1, u "T_INT"), (1, u "T_LONG"), (1, u "SOFT_MAX_ARRAY_LENGTH")] 83

def k13m0 : Method := { name := "<init>", desc := "()V", sig := { parameters := [], returnType := none }, accessFlags := 2, code := none }
/-- jdk/internal/util/ArraysSupport -/
def k13 : Class := { plain "jdk/internal/util/ArraysSupport" (some 0) with
  accessFlags := 33
  interfaces := #[]
  cf := some (fileOf pool13 21 #[] #[{ accessFlags := 2, nameIndex := 9, descriptorIndex := 19, attributes := #[] }] 33 16 #[] #[{ accessFlags := 24, nameIndex := 28, descriptorIndex := 29, attributes := #[] }, { accessFlags := 26, nameIndex := 38, descriptorIndex := 39, attributes := #[] }, { accessFlags := 25, nameIndex := 121, descriptorIndex := 25, attributes := #[] }, { accessFlags := 25, nameIndex := 131, descriptorIndex := 25, attributes := #[] }, { accessFlags := 25, nameIndex := 137, descriptorIndex := 25, attributes := #[] }, { accessFlags := 25, nameIndex := 143, descriptorIndex := 25, attributes := #[] }, { accessFlags := 25, nameIndex := 53, descriptorIndex := 25, attributes := #[] }, { accessFlags := 25, nameIndex := 24, descriptorIndex := 25, attributes := #[] }, { accessFlags := 25, nameIndex := 162, descriptorIndex := 25, attributes := #[] }, { accessFlags := 25, nameIndex := 187, descriptorIndex := 25, attributes := #[] }, { accessFlags := 26, nameIndex := 48, descriptorIndex := 25, attributes := #[] }, { accessFlags := 25, nameIndex := 277, descriptorIndex := 25, attributes := #[] }, { accessFlags := 25, nameIndex := 280, descriptorIndex := 25, attributes := #[] }, { accessFlags := 25, nameIndex := 282, descriptorIndex := 25, attributes := #[] }, { accessFlags := 25, nameIndex := 284, descriptorIndex := 25, attributes := #[] }, { accessFlags := 25, nameIndex := 286, descriptorIndex := 25, attributes := #[] }, { accessFlags := 25, nameIndex := 288, descriptorIndex := 25, attributes := #[] }, { accessFlags := 25, nameIndex := 290, descriptorIndex := 25, attributes := #[] }, { accessFlags := 25, nameIndex := 292, descriptorIndex := 25, attributes := #[] }, { accessFlags := 26, nameIndex := 108, descriptorIndex := 109, attributes := #[] }, { accessFlags := 25, nameIndex := 294, descriptorIndex := 25, attributes := #[] }])
  fields := #[{ name := "U", type := (.object "jdk/internal/misc/Unsafe"), accessFlags := 24, slot := 0, constantValue := 0 }, { name := "BIG_ENDIAN", type := .boolean, accessFlags := 26, slot := 1, constantValue := 0 }, { name := "LOG2_ARRAY_BOOLEAN_INDEX_SCALE", type := .int, accessFlags := 25, slot := 2, constantValue := 0 }, { name := "LOG2_ARRAY_BYTE_INDEX_SCALE", type := .int, accessFlags := 25, slot := 3, constantValue := 0 }, { name := "LOG2_ARRAY_CHAR_INDEX_SCALE", type := .int, accessFlags := 25, slot := 4, constantValue := 0 }, { name := "LOG2_ARRAY_SHORT_INDEX_SCALE", type := .int, accessFlags := 25, slot := 5, constantValue := 0 }, { name := "LOG2_ARRAY_INT_INDEX_SCALE", type := .int, accessFlags := 25, slot := 6, constantValue := 0 }, { name := "LOG2_ARRAY_LONG_INDEX_SCALE", type := .int, accessFlags := 25, slot := 7, constantValue := 0 }, { name := "LOG2_ARRAY_FLOAT_INDEX_SCALE", type := .int, accessFlags := 25, slot := 8, constantValue := 0 }, { name := "LOG2_ARRAY_DOUBLE_INDEX_SCALE", type := .int, accessFlags := 25, slot := 9, constantValue := 0 }, { name := "LOG2_BYTE_BIT_SIZE", type := .int, accessFlags := 26, slot := 10, constantValue := 0 }, { name := "T_BOOLEAN", type := .int, accessFlags := 25, slot := 11, constantValue := 0 }, { name := "T_CHAR", type := .int, accessFlags := 25, slot := 12, constantValue := 0 }, { name := "T_FLOAT", type := .int, accessFlags := 25, slot := 13, constantValue := 0 }, { name := "T_DOUBLE", type := .int, accessFlags := 25, slot := 14, constantValue := 0 }, { name := "T_BYTE", type := .int, accessFlags := 25, slot := 15, constantValue := 0 }, { name := "T_SHORT", type := .int, accessFlags := 25, slot := 16, constantValue := 0 }, { name := "T_INT", type := .int, accessFlags := 25, slot := 17, constantValue := 0 }, { name := "T_LONG", type := .int, accessFlags := 25, slot := 18, constantValue := 0 }, { name := "JLA", type := (.object "jdk/internal/access/JavaLangAccess"), accessFlags := 26, slot := 19, constantValue := 0 }, { name := "SOFT_MAX_ARRAY_LENGTH", type := .int, accessFlags := 25, slot := 20, constantValue := 0 }]
  methods := #[k13m0]
  instanceTypes := #[]
  staticTypes := #[(.object "jdk/internal/misc/Unsafe"), .boolean, .int, .int, .int, .int, .int, .int, .int, .int, .int, .int, .int, .int, .int, .int, .int, .int, .int, (.object "jdk/internal/access/JavaLangAccess"), .int]
  resolved := Array.replicate 378 none
  statics := none }

def pool14 : Array CpInfo := pool [(1, u "java/lang/Cloneable"), (0, .class_ 1), (0, u "java/lang/Object"), (0, .class_ 3)] 3

/-- java/lang/Cloneable -/
def k14 : Class := { plain "java/lang/Cloneable" (some 0) with
  accessFlags := 1537
  interfaces := #[]
  cf := some (fileOf pool14 2 #[] #[] 1537 4 #[] #[])
  fields := #[]
  methods := #[]
  instanceTypes := #[]
  staticTypes := #[]
  resolved := Array.replicate 8 none
  statics := none }

/-- the primitive byte -/
def k15 : Class := { plain "byte" none with kind := .primitive 'B', accessFlags := 0x411 }
/-- [B -/
def k16 : Class := { plain "[B" (some 0) with kind := .array 15 .byte, interfaces := #[14, 2], accessFlags := 1041 }

/-- the primitive char -/
def k17 : Class := { plain "char" none with kind := .primitive 'C', accessFlags := 0x411 }
/-- [C -/
def k18 : Class := { plain "[C" (some 0) with kind := .array 17 .char, interfaces := #[14, 2], accessFlags := 1041 }

/-- the primitive int -/
def k19 : Class := { plain "int" none with kind := .primitive 'I', accessFlags := 0x411 }
/-- [I -/
def k20 : Class := { plain "[I" (some 0) with kind := .array 19 .int, interfaces := #[14, 2], accessFlags := 1041 }

def heap : Heap := #[{ cls := 7, slots := #[.long 0, .int 1, .null, .int 0, .null, .int 0, .int 0], vm := .statics 7 },
  { cls := 9, slots := #[.int 0, .int 8, .int 0, .int 1], vm := .statics 9 },
  { cls := 12, slots := #[.null, .null, .null], vm := .statics 12 }]
def classes : Array Class := #[k0, k1, k2, k3, k4, k5, k6, k7, k8, k9, k10, k11, k12, k13, k14, k15, k16, k17, k18, k19, k20]
def interned : List (Array UInt16 × Addr) := []
def slotsUsed : Nat := 14
def theMethod : MethodId := ⟨1, 3⟩
def args0 : Array Value := #[.int 3, .int 4, .int 5, .int 6]
def aboutOver (below : List Frame) : State where
  vm := { classes := classes, interned := interned.toArray }
  heap := heap
  slotsUsed := slotsUsed
  threads := #[{ frames := .invoking theMethod args0 :: below }]
def below0 : List Frame := [.native { method := ⟨0, 0⟩, args := #[] }]
def about1 : State := aboutOver below0
def p0 : Program := .bare "" "" ""
def e0 : Env := launch0.env 0 0 0
theorem w_frames : about1.frames = Frame.invoking theMethod args0 :: below0 := rfl
set_option maxRecDepth 65536 in
theorem w_args : argsFit about1.vm theMethod args0 = true := by decide +kernel
set_option maxRecDepth 65536 in
theorem w_heap : heapFits about1 = true := by decide +kernel
set_option maxRecDepth 65536 in
theorem w_runnable : about1.curStatus? = some .runnable := by decide +kernel
set_option maxRecDepth 65536 in
theorem w_alone : about1.alone = true := by decide +kernel
set_option maxRecDepth 65536 in
theorem w_named : about1.methodNamed? x = some theMethod := by decide +kernel
set_option maxRecDepth 65536 in
theorem w_hears : about1.hears theMethod below0 = true := by decide +kernel
set_option maxRecDepth 65536 in
theorem w_ripe : about1.ripe theMethod args0 below0 = true := by decide +kernel
theorem w_running : about1.status = .running := rfl
set_option maxRecDepth 65536 in
theorem w_room : about1.hasRoom e0.platform room_1 = true :=
  launch0.hasRoom_least _ room_1 (by decide +kernel) (by decide +kernel) (by decide +kernel) (by decide +kernel) (by decide +kernel) (by decide +kernel)
theorem allAtoms_all (ts : List Jvm.Cond) (a : Array Jvm.Value) (st : Jvm.State) : (allAtoms ts).before a st = ts.all (fun c => c.before a st) := by
  induction ts with
  | nil => rfl
  | cons c t ih =>
    show (Jvm.Cond.and c (allAtoms t)).before a st = _
    rw [Jvm.Cond.before_and, ih, List.all_cons]
def words1 : List Jvm.Cond := Jvm.Cond.code x code maxLocals ret :: tables_1
/-- a 'code' word, met by the world's own term for the bytes: nothing is compared byte by byte -/
theorem code_word {y : MethodName} {bytes : ByteArray} {mx : Nat} {rt : Option FieldType} {a : Array Value} {s : State} {m : MethodId} {meth : Method} {c : Code} (h1 : s.methodNamed? y = some m) (h2 : s.vm.method? m = some meth) (h3 : meth.code = some c) (h4 : c.code = bytes)
    (h5 : (c.maxLocals == mx && c.exceptionTable.isEmpty && decide (c.maxStack ≤ mostOperands) && decide (meth.sig.returnType = rt) && !meth.locks && decide (parseMethodDescriptor y.desc = some meth.sig)) = true) : (Jvm.Cond.code y bytes mx rt).before a s = true := by
  simp only [Bool.and_eq_true, beq_iff_eq, Bool.not_eq_true', decide_eq_true_eq] at h5
  obtain ⟨⟨⟨⟨⟨g1, g2⟩, g3⟩, g4⟩, g5⟩, g6⟩ := h5
  simp [Cond.before, Cond.holds, Cond.value, h1, h2, h3, h4, g1, g2, g3, g4, g5, g6]
def isCode : Jvm.Cond → Bool
  | .code _ _ _ _ => true
  | _ => false
theorem all_split {L : List Jvm.Cond} {P : Jvm.Cond → Bool} (h1 : L.all (fun c => isCode c || P c) = true) (h2 : ∀ c ∈ L.filter isCode, P c = true) : L.all P = true := by
  refine List.all_eq_true.mpr fun c hc => ?_
  have h := List.all_eq_true.mp h1 c hc
  rcases Bool.eq_false_or_eq_true (isCode c) with hi | hi
  · exact h2 c (List.mem_filter.mpr ⟨hc, hi⟩)
  · simpa [hi] using h
set_option maxRecDepth 65536 in
theorem w_c0 : (Jvm.Cond.code x code maxLocals ret).before args0 about1 = true := code_word (m := ⟨1, 3⟩) (meth := k1m3) (c := k1c3) (by decide +kernel) rfl rfl rfl (by decide +kernel)
set_option maxRecDepth 65536 in
theorem w_c1 : (Jvm.Cond.code ({ cls := "com/example/brokerward/brokerward/rules/TopicFilterIsValidTopicNamePinLaw", name := "pick", desc := "(I)C" } : Jvm.MethodName) method_2_code (2 : Nat) (Option.some Jvm.ClassFile.FieldType.char)).before args0 about1 = true := code_word (m := ⟨1, 1⟩) (meth := k1m1) (c := k1c1) (by decide +kernel) rfl rfl rfl (by decide +kernel)
set_option maxRecDepth 65536 in
theorem w_c2 : (Jvm.Cond.code ({ cls := "java/lang/String", name := "<init>", desc := "([C)V" } : Jvm.MethodName) jdk_42_method_3_code (2 : Nat) (Option.none : Option Jvm.ClassFile.FieldType)).before args0 about1 = true := code_word (m := ⟨7, 1⟩) (meth := k7m1) (c := k7c1) (by decide +kernel) rfl rfl rfl (by decide +kernel)
set_option maxRecDepth 65536 in
theorem w_c3 : (Jvm.Cond.code ({ cls := "java/lang/String", name := "<init>", desc := "([CIILjava/lang/Void;)V" } : Jvm.MethodName) jdk_42_method_149_code (6 : Nat) (Option.none : Option Jvm.ClassFile.FieldType)).before args0 about1 = true := code_word (m := ⟨7, 6⟩) (meth := k7m6) (c := k7c6) (by decide +kernel) rfl rfl rfl (by decide +kernel)
set_option maxRecDepth 65536 in
theorem w_c4 : (Jvm.Cond.code ({ cls := "java/lang/Object", name := "<init>", desc := "()V" } : Jvm.MethodName) object_method_1_code (1 : Nat) (Option.none : Option Jvm.ClassFile.FieldType)).before args0 about1 = true := code_word (m := ⟨0, 0⟩) (meth := k0m0) (c := k0c0) (by decide +kernel) rfl rfl rfl (by decide +kernel)
set_option maxRecDepth 65536 in
theorem w_c5 : (Jvm.Cond.code ({ cls := "com/example/brokerward/brokerward/rules/TopicFilter", name := "isValidTopicName", desc := "(Ljava/lang/String;)Z" } : Jvm.MethodName) prog_53_method_4_code (1 : Nat) (Option.some Jvm.ClassFile.FieldType.boolean)).before args0 about1 = true := code_word (m := ⟨8, 0⟩) (meth := k8m0) (c := k8c0) (by decide +kernel) rfl rfl rfl (by decide +kernel)
set_option maxRecDepth 65536 in
theorem w_c6 : (Jvm.Cond.code ({ cls := "java/lang/String", name := "isEmpty", desc := "()Z" } : Jvm.MethodName) jdk_42_method_55_code (1 : Nat) (Option.some Jvm.ClassFile.FieldType.boolean)).before args0 about1 = true := code_word (m := ⟨7, 3⟩) (meth := k7m3) (c := k7c3) (by decide +kernel) rfl rfl rfl (by decide +kernel)
set_option maxRecDepth 65536 in
theorem w_c7 : (Jvm.Cond.code ({ cls := "java/lang/StringUTF16", name := "compress", desc := "([CII)[B" } : Jvm.MethodName) jdk_52_method_16_code (6 : Nat) (Option.some (Jvm.ClassFile.FieldType.array Jvm.ClassFile.FieldType.byte))).before args0 about1 = true := code_word (m := ⟨9, 8⟩) (meth := k9m8) (c := k9c8) (by decide +kernel) rfl rfl rfl (by decide +kernel)
set_option maxRecDepth 65536 in
theorem w_c8 : (Jvm.Cond.code ({ cls := "java/lang/StringUTF16", name := "compress", desc := "([CI[BII)I" } : Jvm.MethodName) jdk_52_method_21_code (7 : Nat) (Option.some Jvm.ClassFile.FieldType.int)).before args0 about1 = true := code_word (m := ⟨9, 9⟩) (meth := k9m9) (c := k9c9) (by decide +kernel) rfl rfl rfl (by decide +kernel)
set_option maxRecDepth 65536 in
theorem w_c9 : (Jvm.Cond.code ({ cls := "java/lang/StringUTF16", name := "coderFromArrayLen", desc := "([BI)B" } : Jvm.MethodName) jdk_52_method_15_code (2 : Nat) (Option.some Jvm.ClassFile.FieldType.byte)).before args0 about1 = true := code_word (m := ⟨9, 7⟩) (meth := k9m7) (c := k9c7) (by decide +kernel) rfl rfl rfl (by decide +kernel)
set_option maxRecDepth 65536 in
theorem w_c10 : (Jvm.Cond.code ({ cls := "com/example/brokerward/brokerward/rules/TopicFilterIsValidTopicNamePinLaw", name := "bad", desc := "(C)Z" } : Jvm.MethodName) method_3_code (1 : Nat) (Option.some Jvm.ClassFile.FieldType.boolean)).before args0 about1 = true := code_word (m := ⟨1, 2⟩) (meth := k1m2) (c := k1c2) (by decide +kernel) rfl rfl rfl (by decide +kernel)
set_option maxRecDepth 65536 in
theorem w_c11 : (Jvm.Cond.code ({ cls := "com/example/brokerward/brokerward/rules/TopicFilter", name := "hasWildcard", desc := "(Ljava/lang/String;)Z" } : Jvm.MethodName) prog_53_method_5_code (1 : Nat) (Option.some Jvm.ClassFile.FieldType.boolean)).before args0 about1 = true := code_word (m := ⟨8, 1⟩) (meth := k8m1) (c := k8c1) (by decide +kernel) rfl rfl rfl (by decide +kernel)
set_option maxRecDepth 65536 in
theorem w_c12 : (Jvm.Cond.code ({ cls := "java/lang/String", name := "indexOf", desc := "(I)I" } : Jvm.MethodName) jdk_42_method_79_code (2 : Nat) (Option.some Jvm.ClassFile.FieldType.int)).before args0 about1 = true := code_word (m := ⟨7, 4⟩) (meth := k7m4) (c := k7c4) (by decide +kernel) rfl rfl rfl (by decide +kernel)
set_option maxRecDepth 65536 in
theorem w_c13 : (Jvm.Cond.code ({ cls := "java/lang/String", name := "indexOf", desc := "(II)I" } : Jvm.MethodName) jdk_42_method_80_code (3 : Nat) (Option.some Jvm.ClassFile.FieldType.int)).before args0 about1 = true := code_word (m := ⟨7, 5⟩) (meth := k7m5) (c := k7c5) (by decide +kernel) rfl rfl rfl (by decide +kernel)
set_option maxRecDepth 65536 in
theorem w_c14 : (Jvm.Cond.code ({ cls := "java/lang/String", name := "isLatin1", desc := "()Z" } : Jvm.MethodName) jdk_42_method_154_code (1 : Nat) (Option.some Jvm.ClassFile.FieldType.boolean)).before args0 about1 = true := code_word (m := ⟨7, 8⟩) (meth := k7m8) (c := k7c8) (by decide +kernel) rfl rfl rfl (by decide +kernel)
set_option maxRecDepth 65536 in
theorem w_c15 : (Jvm.Cond.code ({ cls := "java/lang/String", name := "length", desc := "()I" } : Jvm.MethodName) jdk_42_method_54_code (1 : Nat) (Option.some Jvm.ClassFile.FieldType.int)).before args0 about1 = true := code_word (m := ⟨7, 2⟩) (meth := k7m2) (c := k7c2) (by decide +kernel) rfl rfl rfl (by decide +kernel)
set_option maxRecDepth 65536 in
theorem w_c16 : (Jvm.Cond.code ({ cls := "java/lang/String", name := "coder", desc := "()B" } : Jvm.MethodName) jdk_42_method_152_code (1 : Nat) (Option.some Jvm.ClassFile.FieldType.byte)).before args0 about1 = true := code_word (m := ⟨7, 7⟩) (meth := k7m7) (c := k7c7) (by decide +kernel) rfl rfl rfl (by decide +kernel)
set_option maxRecDepth 65536 in
theorem w_c17 : (Jvm.Cond.code ({ cls := "java/lang/StringLatin1", name := "indexOf", desc := "([BIII)I" } : Jvm.MethodName) jdk_43_method_22_code (4 : Nat) (Option.some Jvm.ClassFile.FieldType.int)).before args0 about1 = true := code_word (m := ⟨10, 2⟩) (meth := k10m2) (c := k10c2) (by decide +kernel) rfl rfl rfl (by decide +kernel)
set_option maxRecDepth 65536 in
theorem w_c18 : (Jvm.Cond.code ({ cls := "java/lang/StringLatin1", name := "canEncode", desc := "(I)Z" } : Jvm.MethodName) jdk_43_method_4_code (1 : Nat) (Option.some Jvm.ClassFile.FieldType.boolean)).before args0 about1 = true := code_word (m := ⟨10, 1⟩) (meth := k10m1) (c := k10c1) (by decide +kernel) rfl rfl rfl (by decide +kernel)
set_option maxRecDepth 65536 in
theorem w_c19 : (Jvm.Cond.code ({ cls := "java/lang/Math", name := "max", desc := "(II)I" } : Jvm.MethodName) jdk_29_method_65_code (2 : Nat) (Option.some Jvm.ClassFile.FieldType.int)).before args0 about1 = true := code_word (m := ⟨11, 1⟩) (meth := k11m1) (c := k11c1) (by decide +kernel) rfl rfl rfl (by decide +kernel)
set_option maxRecDepth 65536 in
theorem w_c20 : (Jvm.Cond.code ({ cls := "java/lang/Math", name := "min", desc := "(II)I" } : Jvm.MethodName) jdk_29_method_69_code (2 : Nat) (Option.some Jvm.ClassFile.FieldType.int)).before args0 about1 = true := code_word (m := ⟨11, 2⟩) (meth := k11m2) (c := k11c2) (by decide +kernel) rfl rfl rfl (by decide +kernel)
set_option maxRecDepth 65536 in
theorem w_c21 : (Jvm.Cond.code ({ cls := "java/lang/StringLatin1", name := "indexOfChar", desc := "([BIII)I" } : Jvm.MethodName) jdk_43_method_23_code (6 : Nat) (Option.some Jvm.ClassFile.FieldType.int)).before args0 about1 = true := code_word (m := ⟨10, 3⟩) (meth := k10m3) (c := k10c3) (by decide +kernel) rfl rfl rfl (by decide +kernel)
set_option maxRecDepth 65536 in
theorem w_c22 : (Jvm.Cond.code ({ cls := "java/lang/StringUTF16", name := "toBytes", desc := "([CII)[B" } : Jvm.MethodName) jdk_52_method_14_code (5 : Nat) (Option.some (Jvm.ClassFile.FieldType.array Jvm.ClassFile.FieldType.byte))).before args0 about1 = true := code_word (m := ⟨9, 6⟩) (meth := k9m6) (c := k9c6) (by decide +kernel) rfl rfl rfl (by decide +kernel)
set_option maxRecDepth 65536 in
theorem w_c23 : (Jvm.Cond.code ({ cls := "java/lang/StringUTF16", name := "newBytesFor", desc := "(I)[B" } : Jvm.MethodName) jdk_52_method_2_code (1 : Nat) (Option.some (Jvm.ClassFile.FieldType.array Jvm.ClassFile.FieldType.byte))).before args0 about1 = true := code_word (m := ⟨9, 1⟩) (meth := k9m1) (c := k9c1) (by decide +kernel) rfl rfl rfl (by decide +kernel)
set_option maxRecDepth 65536 in
theorem w_c24 : (Jvm.Cond.code ({ cls := "java/lang/StringUTF16", name := "newBytesLength", desc := "(I)I" } : Jvm.MethodName) jdk_52_method_3_code (1 : Nat) (Option.some Jvm.ClassFile.FieldType.int)).before args0 about1 = true := code_word (m := ⟨9, 2⟩) (meth := k9m2) (c := k9c2) (by decide +kernel) rfl rfl rfl (by decide +kernel)
set_option maxRecDepth 65536 in
theorem w_c25 : (Jvm.Cond.code ({ cls := "java/lang/StringUTF16", name := "putChar", desc := "([BII)V" } : Jvm.MethodName) jdk_52_method_4_code (3 : Nat) (Option.none : Option Jvm.ClassFile.FieldType)).before args0 about1 = true := code_word (m := ⟨9, 3⟩) (meth := k9m3) (c := k9c3) (by decide +kernel) rfl rfl rfl (by decide +kernel)
set_option maxRecDepth 65536 in
theorem w_c26 : (Jvm.Cond.code ({ cls := "java/lang/StringUTF16", name := "getChar", desc := "([BI)C" } : Jvm.MethodName) jdk_52_method_5_code (2 : Nat) (Option.some Jvm.ClassFile.FieldType.char)).before args0 about1 = true := code_word (m := ⟨9, 4⟩) (meth := k9m4) (c := k9c4) (by decide +kernel) rfl rfl rfl (by decide +kernel)
set_option maxRecDepth 65536 in
theorem w_c27 : (Jvm.Cond.code ({ cls := "java/lang/StringUTF16", name := "indexOf", desc := "([BIII)I" } : Jvm.MethodName) jdk_52_method_40_code (4 : Nat) (Option.some Jvm.ClassFile.FieldType.int)).before args0 about1 = true := code_word (m := ⟨9, 10⟩) (meth := k9m10) (c := k9c10) (by decide +kernel) rfl rfl rfl (by decide +kernel)
set_option maxRecDepth 65536 in
theorem w_c28 : (Jvm.Cond.code ({ cls := "java/lang/StringUTF16", name := "indexOfChar", desc := "([BIII)I" } : Jvm.MethodName) jdk_52_method_47_code (4 : Nat) (Option.some Jvm.ClassFile.FieldType.int)).before args0 about1 = true := code_word (m := ⟨9, 11⟩) (meth := k9m11) (c := k9c11) (by decide +kernel) rfl rfl rfl (by decide +kernel)
set_option maxRecDepth 65536 in
theorem w_c29 : (Jvm.Cond.code ({ cls := "java/lang/StringUTF16", name := "checkBoundsBeginEnd", desc := "(II[B)V" } : Jvm.MethodName) jdk_52_method_93_code (3 : Nat) (Option.none : Option Jvm.ClassFile.FieldType)).before args0 about1 = true := code_word (m := ⟨9, 13⟩) (meth := k9m13) (c := k9c13) (by decide +kernel) rfl rfl rfl (by decide +kernel)
set_option maxRecDepth 65536 in
theorem w_c30 : (Jvm.Cond.code ({ cls := "java/lang/StringUTF16", name := "length", desc := "([B)I" } : Jvm.MethodName) jdk_52_method_6_code (1 : Nat) (Option.some Jvm.ClassFile.FieldType.int)).before args0 about1 = true := code_word (m := ⟨9, 5⟩) (meth := k9m5) (c := k9c5) (by decide +kernel) rfl rfl rfl (by decide +kernel)
set_option maxRecDepth 65536 in
theorem w_c31 : (Jvm.Cond.code ({ cls := "java/lang/String", name := "checkBoundsBeginEnd", desc := "(III)V" } : Jvm.MethodName) jdk_42_method_158_code (3 : Nat) (Option.none : Option Jvm.ClassFile.FieldType)).before args0 about1 = true := code_word (m := ⟨7, 9⟩) (meth := k7m9) (c := k7c9) (by decide +kernel) rfl rfl rfl (by decide +kernel)
set_option maxRecDepth 65536 in
theorem w_c32 : (Jvm.Cond.code ({ cls := "jdk/internal/util/Preconditions", name := "checkFromToIndex", desc := "(IIILjava/util/function/BiFunction;)I" } : Jvm.MethodName) jdk_41_method_12_code (4 : Nat) (Option.some Jvm.ClassFile.FieldType.int)).before args0 about1 = true := code_word (m := ⟨12, 1⟩) (meth := k12m1) (c := k12c1) (by decide +kernel) rfl rfl rfl (by decide +kernel)
set_option maxRecDepth 65536 in
theorem w_c33 : (Jvm.Cond.code ({ cls := "java/lang/StringUTF16", name := "indexOfCharUnsafe", desc := "([BIII)I" } : Jvm.MethodName) jdk_52_method_48_code (5 : Nat) (Option.some Jvm.ClassFile.FieldType.int)).before args0 about1 = true := code_word (m := ⟨9, 12⟩) (meth := k9m12) (c := k9c12) (by decide +kernel) rfl rfl rfl (by decide +kernel)
def codes1 : List Jvm.Cond := [Jvm.Cond.code x code maxLocals ret, Jvm.Cond.code ({ cls := "com/example/brokerward/brokerward/rules/TopicFilterIsValidTopicNamePinLaw", name := "pick", desc := "(I)C" } : Jvm.MethodName) method_2_code (2 : Nat) (Option.some Jvm.ClassFile.FieldType.char), Jvm.Cond.code ({ cls := "java/lang/String", name := "<init>", desc := "([C)V" } : Jvm.MethodName) jdk_42_method_3_code (2 : Nat) (Option.none : Option Jvm.ClassFile.FieldType), Jvm.Cond.code ({ cls := "java/lang/String", name := "<init>", desc := "([CIILjava/lang/Void;)V" } : Jvm.MethodName) jdk_42_method_149_code (6 : Nat) (Option.none : Option Jvm.ClassFile.FieldType), Jvm.Cond.code ({ cls := "java/lang/Object", name := "<init>", desc := "()V" } : Jvm.MethodName) object_method_1_code (1 : Nat) (Option.none : Option Jvm.ClassFile.FieldType), Jvm.Cond.code ({ cls := "com/example/brokerward/brokerward/rules/TopicFilter", name := "isValidTopicName", desc := "(Ljava/lang/String;)Z" } : Jvm.MethodName) prog_53_method_4_code (1 : Nat) (Option.some Jvm.ClassFile.FieldType.boolean), Jvm.Cond.code ({ cls := "java/lang/String", name := "isEmpty", desc := "()Z" } : Jvm.MethodName) jdk_42_method_55_code (1 : Nat) (Option.some Jvm.ClassFile.FieldType.boolean), Jvm.Cond.code ({ cls := "java/lang/StringUTF16", name := "compress", desc := "([CII)[B" } : Jvm.MethodName) jdk_52_method_16_code (6 : Nat) (Option.some (Jvm.ClassFile.FieldType.array Jvm.ClassFile.FieldType.byte)), Jvm.Cond.code ({ cls := "java/lang/StringUTF16", name := "compress", desc := "([CI[BII)I" } : Jvm.MethodName) jdk_52_method_21_code (7 : Nat) (Option.some Jvm.ClassFile.FieldType.int), Jvm.Cond.code ({ cls := "java/lang/StringUTF16", name := "coderFromArrayLen", desc := "([BI)B" } : Jvm.MethodName) jdk_52_method_15_code (2 : Nat) (Option.some Jvm.ClassFile.FieldType.byte), Jvm.Cond.code ({ cls := "com/example/brokerward/brokerward/rules/TopicFilterIsValidTopicNamePinLaw", name := "bad", desc := "(C)Z" } : Jvm.MethodName) method_3_code (1 : Nat) (Option.some Jvm.ClassFile.FieldType.boolean), Jvm.Cond.code ({ cls := "com/example/brokerward/brokerward/rules/TopicFilter", name := "hasWildcard", desc := "(Ljava/lang/String;)Z" } : Jvm.MethodName) prog_53_method_5_code (1 : Nat) (Option.some Jvm.ClassFile.FieldType.boolean), Jvm.Cond.code ({ cls := "java/lang/String", name := "indexOf", desc := "(I)I" } : Jvm.MethodName) jdk_42_method_79_code (2 : Nat) (Option.some Jvm.ClassFile.FieldType.int), Jvm.Cond.code ({ cls := "java/lang/String", name := "indexOf", desc := "(II)I" } : Jvm.MethodName) jdk_42_method_80_code (3 : Nat) (Option.some Jvm.ClassFile.FieldType.int), Jvm.Cond.code ({ cls := "java/lang/String", name := "isLatin1", desc := "()Z" } : Jvm.MethodName) jdk_42_method_154_code (1 : Nat) (Option.some Jvm.ClassFile.FieldType.boolean), Jvm.Cond.code ({ cls := "java/lang/String", name := "length", desc := "()I" } : Jvm.MethodName) jdk_42_method_54_code (1 : Nat) (Option.some Jvm.ClassFile.FieldType.int), Jvm.Cond.code ({ cls := "java/lang/String", name := "coder", desc := "()B" } : Jvm.MethodName) jdk_42_method_152_code (1 : Nat) (Option.some Jvm.ClassFile.FieldType.byte), Jvm.Cond.code ({ cls := "java/lang/StringLatin1", name := "indexOf", desc := "([BIII)I" } : Jvm.MethodName) jdk_43_method_22_code (4 : Nat) (Option.some Jvm.ClassFile.FieldType.int), Jvm.Cond.code ({ cls := "java/lang/StringLatin1", name := "canEncode", desc := "(I)Z" } : Jvm.MethodName) jdk_43_method_4_code (1 : Nat) (Option.some Jvm.ClassFile.FieldType.boolean), Jvm.Cond.code ({ cls := "java/lang/Math", name := "max", desc := "(II)I" } : Jvm.MethodName) jdk_29_method_65_code (2 : Nat) (Option.some Jvm.ClassFile.FieldType.int), Jvm.Cond.code ({ cls := "java/lang/Math", name := "min", desc := "(II)I" } : Jvm.MethodName) jdk_29_method_69_code (2 : Nat) (Option.some Jvm.ClassFile.FieldType.int), Jvm.Cond.code ({ cls := "java/lang/StringLatin1", name := "indexOfChar", desc := "([BIII)I" } : Jvm.MethodName) jdk_43_method_23_code (6 : Nat) (Option.some Jvm.ClassFile.FieldType.int), Jvm.Cond.code ({ cls := "java/lang/StringUTF16", name := "toBytes", desc := "([CII)[B" } : Jvm.MethodName) jdk_52_method_14_code (5 : Nat) (Option.some (Jvm.ClassFile.FieldType.array Jvm.ClassFile.FieldType.byte)), Jvm.Cond.code ({ cls := "java/lang/StringUTF16", name := "newBytesFor", desc := "(I)[B" } : Jvm.MethodName) jdk_52_method_2_code (1 : Nat) (Option.some (Jvm.ClassFile.FieldType.array Jvm.ClassFile.FieldType.byte)), Jvm.Cond.code ({ cls := "java/lang/StringUTF16", name := "newBytesLength", desc := "(I)I" } : Jvm.MethodName) jdk_52_method_3_code (1 : Nat) (Option.some Jvm.ClassFile.FieldType.int), Jvm.Cond.code ({ cls := "java/lang/StringUTF16", name := "putChar", desc := "([BII)V" } : Jvm.MethodName) jdk_52_method_4_code (3 : Nat) (Option.none : Option Jvm.ClassFile.FieldType), Jvm.Cond.code ({ cls := "java/lang/StringUTF16", name := "getChar", desc := "([BI)C" } : Jvm.MethodName) jdk_52_method_5_code (2 : Nat) (Option.some Jvm.ClassFile.FieldType.char), Jvm.Cond.code ({ cls := "java/lang/StringUTF16", name := "indexOf", desc := "([BIII)I" } : Jvm.MethodName) jdk_52_method_40_code (4 : Nat) (Option.some Jvm.ClassFile.FieldType.int), Jvm.Cond.code ({ cls := "java/lang/StringUTF16", name := "indexOfChar", desc := "([BIII)I" } : Jvm.MethodName) jdk_52_method_47_code (4 : Nat) (Option.some Jvm.ClassFile.FieldType.int), Jvm.Cond.code ({ cls := "java/lang/StringUTF16", name := "checkBoundsBeginEnd", desc := "(II[B)V" } : Jvm.MethodName) jdk_52_method_93_code (3 : Nat) (Option.none : Option Jvm.ClassFile.FieldType), Jvm.Cond.code ({ cls := "java/lang/StringUTF16", name := "length", desc := "([B)I" } : Jvm.MethodName) jdk_52_method_6_code (1 : Nat) (Option.some Jvm.ClassFile.FieldType.int), Jvm.Cond.code ({ cls := "java/lang/String", name := "checkBoundsBeginEnd", desc := "(III)V" } : Jvm.MethodName) jdk_42_method_158_code (3 : Nat) (Option.none : Option Jvm.ClassFile.FieldType), Jvm.Cond.code ({ cls := "jdk/internal/util/Preconditions", name := "checkFromToIndex", desc := "(IIILjava/util/function/BiFunction;)I" } : Jvm.MethodName) jdk_41_method_12_code (4 : Nat) (Option.some Jvm.ClassFile.FieldType.int), Jvm.Cond.code ({ cls := "java/lang/StringUTF16", name := "indexOfCharUnsafe", desc := "([BIII)I" } : Jvm.MethodName) jdk_52_method_48_code (5 : Nat) (Option.some Jvm.ClassFile.FieldType.int)]
set_option maxRecDepth 65536 in
theorem codes_eq : words1.filter isCode = codes1 := rfl
theorem w_codes : ∀ c ∈ words1.filter isCode, c.before args0 about1 = true := by
  rw [codes_eq]
  intro c hc
  simp only [codes1, List.mem_cons, List.not_mem_nil, or_false] at hc
  rcases hc with rfl | rfl | rfl | rfl | rfl | rfl | rfl | rfl | rfl | rfl | rfl | rfl | rfl | rfl | rfl | rfl | rfl | rfl | rfl | rfl | rfl | rfl | rfl | rfl | rfl | rfl | rfl | rfl | rfl | rfl | rfl | rfl | rfl | rfl
  · exact w_c0
  · exact w_c1
  · exact w_c2
  · exact w_c3
  · exact w_c4
  · exact w_c5
  · exact w_c6
  · exact w_c7
  · exact w_c8
  · exact w_c9
  · exact w_c10
  · exact w_c11
  · exact w_c12
  · exact w_c13
  · exact w_c14
  · exact w_c15
  · exact w_c16
  · exact w_c17
  · exact w_c18
  · exact w_c19
  · exact w_c20
  · exact w_c21
  · exact w_c22
  · exact w_c23
  · exact w_c24
  · exact w_c25
  · exact w_c26
  · exact w_c27
  · exact w_c28
  · exact w_c29
  · exact w_c30
  · exact w_c31
  · exact w_c32
  · exact w_c33
set_option maxRecDepth 65536 in
theorem w_t1 : (words1.take 24).all (fun c => isCode c || c.before args0 about1) = true := by decide +kernel
set_option maxRecDepth 65536 in
theorem w_t2 : ((words1.drop 24).take 24).all (fun c => isCode c || c.before args0 about1) = true := by decide +kernel
set_option maxRecDepth 65536 in
theorem w_t3 : (((words1.drop 24).drop 24).take 24).all (fun c => isCode c || c.before args0 about1) = true := by decide +kernel
set_option maxRecDepth 65536 in
theorem w_t4 : ((((words1.drop 24).drop 24).drop 24).take 24).all (fun c => isCode c || c.before args0 about1) = true := by decide +kernel
set_option maxRecDepth 65536 in
theorem w_t5 : (((((words1.drop 24).drop 24).drop 24).drop 24).take 24).all (fun c => isCode c || c.before args0 about1) = true := by decide +kernel
set_option maxRecDepth 65536 in
theorem w_t6 : (((((words1.drop 24).drop 24).drop 24).drop 24).drop 24).all (fun c => isCode c || c.before args0 about1) = true := by decide +kernel
theorem w_tables : (allAtoms (Jvm.Cond.code x code maxLocals ret :: tables_1)).before args0 about1 = true := by
  rw [allAtoms_all]
  show words1.all (fun c => c.before args0 about1) = true
  refine all_split ?_ w_codes
  rw [← List.take_append_drop 24 words1, List.all_append, w_t1, ← List.take_append_drop 24 (words1.drop 24), List.all_append, w_t2, ← List.take_append_drop 24 ((words1.drop 24).drop 24), List.all_append, w_t3, ← List.take_append_drop 24 (((words1.drop 24).drop 24).drop 24), List.all_append, w_t4, ← List.take_append_drop 24 ((((words1.drop 24).drop 24).drop 24).drop 24), List.all_append, w_t5, w_t6]
  rfl
set_option maxRecDepth 65536 in
theorem w_rest : rest_1_c.before args0 about1 = true := by decide +kernel
set_option maxRecDepth 65536 in
theorem w_case : (Jvm.Cond.and given_1 narrow_1).before args0 about1 = true := by decide +kernel
set_option maxRecDepth 65536 in
theorem w_consts : constsHeld consts_1 about1 := Jvm.Lit.constsHeldB_iff.mp (by decide +kernel)
theorem w_applies : (headSpec (Jvm.Cond.code x code maxLocals ret :: tables_1) room_1).applies x e0.platform about1 = true :=
  (Spec.applies_iff w_frames).mpr ⟨w_running, w_runnable, w_alone, w_named, w_hears, w_ripe, w_room, w_tables⟩
theorem atStart : AtStart classFile x code maxLocals ret World_1 tables_1 room_1 Calls_1 rest_1 Pre_1 launch0 p0 e0 about1 theMethod args0 below0 :=
  ⟨lists_1, trivial, launch0.admits_env _ _ _, launch0.least_env, fairChoices_fair.cas, fairChoices_fair.clock, w_frames, w_args, w_heap, w_applies, ⟨w_consts, trivial⟩, w_rest, w_case⟩
end start1
theorem witness_1 : WitnessClaimed_1 := ⟨start1.p0, start1.e0, start1.about1, start1.theMethod, start1.args0, start1.below0, start1.atStart⟩
end Jvm.Pilot.@@N@@
