import JvmDerived
import JvmDerived.Pilot.@@N@@Statement
import JvmDerived.Pilot.@@N@@Code
set_option linter.unusedVariables false
set_option linter.unusedSimpArgs false
namespace Jvm.RoadKit
open Sem ClassFile Op Lib Jvm.Stand Jvm.Free Jvm.LawKit
section New
variable {p : Program} {l : Launch} {e : Env} {R : Room} {s : State} {m : MethodId} {args : Array Value} {below : List Frame} {meth : Method} {c : Code} {T : State} {locs : List Loc} {cells slots : Nat}
theorem retI (X : Stand p l e R s m args below meth c T locs cells slots) (hx : p.tables.exec = Jvm.exec) {pc : Nat} {Ls : Array Slot} {z : Int32} {rest : List Value} (hret : meth.sig.returnType = some .int) (hd : decode c.code pc = .ok (.ireturn, 1)) {fs : List Frame}
    (hl : ∀ (f : JFrame) (acts : List Action), f.method = m → f.locked = none → f.entered = [] → (doReturn e (T.setTop f) acts (some (.int z))).1 = T.setFrames fs) : Steps p.tables e below (T.setTop (mkF m pc Ls (.int z :: rest))) (T.setFrames fs) := by
  have hm' : T.vm.method? m = some meth := X.method'
  have hn : narrow .int (.int z) = .int z := rfl
  show Steps p.tables e below (T.setTop { method := m, pc := pc, locals := Ls, stack := _ :: rest, locked := none }) _
  jvm_step X.here [X.here.top, hx, hd, hm', hret, hn]
  first | (intro acts; rw [hl _ acts rfl rfl rfl]) | rw [hl _ _ rfl rfl rfl]
  exact Steps.refl _
end New
end Jvm.RoadKit
/- laws to paste: Road.backV, Road.lenW, Road.chN, Road.codOf (cut by pick.py; bodies as the Statement names them) -/
namespace Jvm.Pilot.@@N@@
namespace StrChars
open Jvm Sem ClassFile Op Lib Jvm.Stand Jvm.Free.XT Jvm.Free.ALB Jvm.Free.JM Jvm.Free
open Jvm.Lib.Cold (StaticIs)
/-- a char array whose places are chars -/
def Ch (a : Addr) (A : Cell) (U : State) : Prop := Arr .char a A U ∧ Typed .char A
theorem Ch.mv {a : Addr} {A : Cell} {U U' : State} (h : Ch a A U) (hal : U.vm.Alike U'.vm) (hh : U'.heap = U.heap) : Ch a A U' := ⟨h.1.mv hal hh, h.2⟩
theorem Ch.keep {a : Addr} {A : Cell} {U U' : State} (h : Ch a A U) (hal : U.vm.Alike U'.vm) (hk : U'.heap[a]? = some A) : Ch a A U' := ⟨h.1.keep hal hk, h.2⟩
/-- what place i of a char[]'s cell holds -/
def cv (A : Cell) (i : Nat) : Int32 := match A.slots[i]? with | some (.int x) => x | _ => 0
theorem Ch.get {a : Addr} {A : Cell} {U : State} (h : Ch a A U) {i : Nat} (hi : i < A.slots.size) : A.slots[i]? = some (.int (cv A i)) := by
  have e := Array.getElem?_eq_getElem hi
  have f := h.2 i _ e
  unfold cv; rw [e]
  generalize A.slots[i] = v at f
  cases v <;> simp [fits] at f ⊢
/-- the byte that i2b leaves of a char -/
def lo8 (x : Int32) : Int32 := x.toInt8.toInt32
theorem fits_lo8 (y : Int32) : fits .byte (.int (lo8 y)) = true := by
  have h1 := y.toInt8.le_toInt
  have h2 := y.toInt8.toInt_lt
  simp only [lo8, fits, Bool.and_eq_true, decide_eq_true_eq, Int32.le_iff_toInt_le, Int8.toInt_toInt32, show (-128 : Int32).toInt = -128 from by decide, show (127 : Int32).toInt = 127 from by decide]
  omega
/-- A' is A but that each place j of lo .. hi - 1 holds f j -/
def Laid (A A' : Cell) (lo hi : Nat) (f : Nat → Value) : Prop := A'.cls = A.cls ∧ A'.vm = A.vm ∧ A'.slots.size = A.slots.size ∧ ∀ i, A'.slots[i]? = if lo ≤ i ∧ i < hi then some (f i) else A.slots[i]?
theorem Laid.zero (A : Cell) (lo : Nat) (f : Nat → Value) : Laid A A lo (lo + 0) f := ⟨rfl, rfl, rfl, fun i => by rw [if_neg (by omega)]⟩
theorem Laid.step {A Ak : Cell} {lo k : Nat} {f : Nat → Value} {v : Value} (h : Laid A Ak lo k f) (hlo : lo ≤ k) (hk : k < Ak.slots.size) (hv : v = f k) : Laid A (Ak.setSlot k v) lo (k + 1) f := by
  refine ⟨h.1, h.2.1, by simpa [Cell.setSlot] using h.2.2.1, fun i => ?_⟩
  by_cases e : k = i
  · subst e; rw [Cell.slots_setSlot_self v hk, if_pos (by omega), hv]
  · rw [Cell.slots_setSlot_ne v e, h.2.2.2 i]
    by_cases q : lo ≤ i ∧ i < k
    · rw [if_pos q, if_pos (by omega)]
    · rw [if_neg q, if_neg (by omega)]
def U16 : String := "java/lang/StringUTF16"
namespace Cmp5
def yN : MethodName := ⟨"java/lang/StringUTF16", "compress", "([CI[BII)I"⟩
abbrev yB : ByteArray := jdk_52_method_21_code
theorem d0 : decode yB 0 = .ok (.iconst 0, 1) := by decide +kernel
theorem d1 : decode yB 1 = .ok (.istore 5, 2) := by decide +kernel
theorem d3 : decode yB 3 = .ok (.iload 5, 2) := by decide +kernel
theorem d5 : decode yB 5 = .ok (.iload 4, 2) := by decide +kernel
theorem d7 : decode yB 7 = .ok (.if_icmp (.ge) 37, 3) := by decide +kernel
theorem d10 : decode yB 10 = .ok (.aload_n 0, 1) := by decide +kernel
theorem d11 : decode yB 11 = .ok (.iload_n 1, 1) := by decide +kernel
theorem d12 : decode yB 12 = .ok (.caload, 1) := by decide +kernel
theorem d13 : decode yB 13 = .ok (.istore 6, 2) := by decide +kernel
theorem d15 : decode yB 15 = .ok (.iload 6, 2) := by decide +kernel
theorem d17 : decode yB 17 = .ok (.sipush 255, 3) := by decide +kernel
theorem d20 : decode yB 20 = .ok (.if_icmp (.le) 6, 3) := by decide +kernel
theorem d26 : decode yB 26 = .ok (.aload_n 2, 1) := by decide +kernel
theorem d27 : decode yB 27 = .ok (.iload_n 3, 1) := by decide +kernel
theorem d28 : decode yB 28 = .ok (.iload 6, 2) := by decide +kernel
theorem d30 : decode yB 30 = .ok (.i2b, 1) := by decide +kernel
theorem d31 : decode yB 31 = .ok (.bastore, 1) := by decide +kernel
theorem d32 : decode yB 32 = .ok (.iinc 1 1, 3) := by decide +kernel
theorem d35 : decode yB 35 = .ok (.iinc 3 1, 3) := by decide +kernel
theorem d38 : decode yB 38 = .ok (.iinc 5 1, 3) := by decide +kernel
theorem d41 : decode yB 41 = .ok (.goto (-38), 3) := by decide +kernel
theorem d44 : decode yB 44 = .ok (.iload 4, 2) := by decide +kernel
theorem d46 : decode yB 46 = .ok (.ireturn, 1) := by decide +kernel
def site : List Cond := []
def tab : Cond := tabOf yN yB 7 (some .int) site
def P (b : Addr) (A : Cell) (d : Addr) (B : Cell) (o q len : Nat) (args : Array Value) (s : State) : Prop := args = #[.ref b, .int (Int32.ofNat o), .ref d, .int (Int32.ofNat q), .int (Int32.ofNat len)] ∧ Ch b A s ∧ Arr .byte d B s ∧ b ≠ d ∧ o + len ≤ A.slots.size ∧ q + len ≤ B.slots.size ∧ ∀ i, i < len → ¬ 255 < cv A (o + i)
def E (b : Addr) (A : Cell) (d : Addr) (B : Cell) (o q len : Nat) (r : Option Value) (s u : State) : Prop := r = some (.int (Int32.ofNat len)) ∧ ∃ B', Put d B' s u ∧ Laid B B' q (q + len) (fun j => Value.int (lo8 (cv A (o + (j - q)))))
/-- no char of the range above 255: len; the places written hold each char's low byte -/
theorem law (l : Launch) (b : Addr) (A : Cell) (d : Addr) (B : Cell) (o q len : Nat) : Law l yN 5 5 0 0 yB 7 (some .int) site (P b A d B o q len) (E b A d B o q len) (copyLocs d q len) 0 0 := by
  refine Law.of_walk (plainFor_of_name (by decide +kernel)) (by decide +kernel) (by decide +kernel) (by decide) (fun _ _ h => by rw [h.1]; rfl) (fun _ U U' hal hh h => ⟨h.1, h.2.1.mv hal hh, h.2.2.1.mv hal hh, h.2.2.2⟩) (fun r U U' V V' h1 hal h2 h => ⟨h.1, h.2.elim fun B' q => ⟨B', q.1.mv h1 h2, q.2⟩⟩) ?_
  intro p e s m args below meth c s₁ X0 hexec hbytes hml hret hlk hnm hown hh0 W hP
  obtain ⟨rfl, hA, hB, hne, l1, l2, hp⟩ := hP
  have c1 : Steps p.tables e below (s₁.setTop (entryFrame m #[.ref b, .int (Int32.ofNat o), .ref d, .int (Int32.ofNat q), .int (Int32.ofNat len)] 7)) (s₁.setTop (mkF m 0 #[.val (.ref b), .val (.int (Int32.ofNat o)), .val (.ref d), .val (.int (Int32.ofNat q)), .val (.int (Int32.ofNat len)), .unset, .unset] [])) := entry rfl
  have hA0 := hA.1.mv X0.warmed.alike hh0
  have hB0 := hB.mv X0.warmed.alike hh0
  have a31 := hA.1.2.2.2
  have c2 : Steps p.tables e below (s₁.setTop (entryFrame m #[.ref b, .int (Int32.ofNat o), .ref d, .int (Int32.ofNat q), .int (Int32.ofNat len)] 7)) (s₁.setTop (mkF m 3 #[.val (.ref b), .val (.int (Int32.ofNat o)), .val (.ref d), .val (.int (Int32.ofNat q)), .val (.int (Int32.ofNat len)), .val (.int 0), .unset] [])) := c1.trans (by
    refine iconstV X0.here hexec rfl 0 (hb hbytes d0) (by decide) ?_
    refine XS.istore X0.here hexec rfl (hb hbytes d1) rfl rfl ?_
    exact Steps.refl _)
  have loop : ∀ (r i : Nat), i + r = len → ∀ (z : Slot), (z = .unset ∨ ∃ w, z = .val w ∧ w.category = 1) → ∀ (Tl : State) (Bk : Cell), Stand p l e { frames := 0, locals := 0, cells := 0, slots := 0 } s m #[.ref b, .int (Int32.ofNat o), .ref d, .int (Int32.ofNat q), .int (Int32.ofNat len)] below meth c Tl ([] ++ copyLocs d q i) 0 0 → Put d Bk s₁ Tl → Laid B Bk q (q + i) (fun j => Value.int (lo8 (cv A (o + (j - q))))) →
      Steps p.tables e below (s₁.setTop (entryFrame m #[.ref b, .int (Int32.ofNat o), .ref d, .int (Int32.ofNat q), .int (Int32.ofNat len)] 7)) (Tl.setTop (mkF m 3 #[.val (.ref b), .val (.int (Int32.ofNat (o + i))), .val (.ref d), .val (.int (Int32.ofNat (q + i))), .val (.int (Int32.ofNat len)), .val (.int (Int32.ofNat i)), z] [])) → ∃ (T' : State) (B' : Cell) (z' : Slot), Stand p l e { frames := 0, locals := 0, cells := 0, slots := 0 } s m #[.ref b, .int (Int32.ofNat o), .ref d, .int (Int32.ofNat q), .int (Int32.ofNat len)] below meth c T' ([] ++ copyLocs d q len) 0 0 ∧ Put d B' s₁ T' ∧ Laid B B' q (q + len) (fun j => Value.int (lo8 (cv A (o + (j - q))))) ∧
      Steps p.tables e below (s₁.setTop (entryFrame m #[.ref b, .int (Int32.ofNat o), .ref d, .int (Int32.ofNat q), .int (Int32.ofNat len)] 7)) (T'.setTop (mkF m 3 #[.val (.ref b), .val (.int (Int32.ofNat (o + len))), .val (.ref d), .val (.int (Int32.ofNat (q + len))), .val (.int (Int32.ofNat len)), .val (.int (Int32.ofNat len)), z'] [])) := by
    intro r
    induction r with
    | zero =>
      intro i hi z hz Tl Bk Xl pl fl cl
      have hil : i = len := by omega
      rw [hil] at Xl fl cl
      exact ⟨Tl, Bk, z, Xl, pl, fl, cl⟩
    | succ r ih =>
      intro i hi z hz Tl Bk Xl pl fl cl
      have all := X0.warmed.alike.symm.trans Xl.warmed.alike
      have hAl := hA0.keep all (pl.other hne hA0.1)
      have hBk := hB0.like all pl.1 fl.1 fl.2.1 fl.2.2.1
      have hlt : q + i < Bk.slots.size := by rw [fl.2.2.1]; omega
      have c3 : Steps p.tables e below (s₁.setTop (entryFrame m #[.ref b, .int (Int32.ofNat o), .ref d, .int (Int32.ofNat q), .int (Int32.ofNat len)] 7)) (Tl.setTop (mkF m 12 #[.val (.ref b), .val (.int (Int32.ofNat (o + i))), .val (.ref d), .val (.int (Int32.ofNat (q + i))), .val (.int (Int32.ofNat len)), .val (.int (Int32.ofNat i)), z] [.int (Int32.ofNat (o + i)), .ref b])) := cl.trans (by
        refine XS.iload Xl.here hexec rfl (hb hbytes d3) rfl ?_
        refine XS.iload Xl.here hexec rfl (hb hbytes d5) rfl ?_
        refine XS.icmpNo Xl.here hexec rfl (hb hbytes d7) rfl (ii_ge_f (lt32 (by omega) (by omega))) ?_
        refine XS.aloadN Xl.here hexec rfl (hb hbytes d10) rfl rfl ?_
        refine XS.iloadN Xl.here hexec rfl (hb hbytes d11) rfl ?_
        exact Steps.refl _)
      have c4 : Steps p.tables e below (s₁.setTop (entryFrame m #[.ref b, .int (Int32.ofNat o), .ref d, .int (Int32.ofNat q), .int (Int32.ofNat len)] 7)) (Tl.setTop (mkF m 13 #[.val (.ref b), .val (.int (Int32.ofNat (o + i))), .val (.ref d), .val (.int (Int32.ofNat (q + i))), .val (.int (Int32.ofNat len)), .val (.int (Int32.ofNat i)), z] [.int (cv A (o + i))])) := c3.trans (by
        refine Xl.aget hexec hAl rfl (hA.get (i := o + i) (by omega)) rfl rfl (hb hbytes d12) ?_
        exact Steps.refl _)
      have c5 : Steps p.tables e below (s₁.setTop (entryFrame m #[.ref b, .int (Int32.ofNat o), .ref d, .int (Int32.ofNat q), .int (Int32.ofNat len)] 7)) (Tl.setTop (mkF m 15 #[.val (.ref b), .val (.int (Int32.ofNat (o + i))), .val (.ref d), .val (.int (Int32.ofNat (q + i))), .val (.int (Int32.ofNat len)), .val (.int (Int32.ofNat i)), .val (.int (cv A (o + i)))] [])) := c4.trans (by
        refine XS.istoreS Xl.here hexec rfl (hb hbytes d13) rfl rfl hz ?_
        exact Steps.refl _)
      have c6 : Steps p.tables e below (s₁.setTop (entryFrame m #[.ref b, .int (Int32.ofNat o), .ref d, .int (Int32.ofNat q), .int (Int32.ofNat len)] 7)) (Tl.setTop (mkF m 31 #[.val (.ref b), .val (.int (Int32.ofNat (o + i))), .val (.ref d), .val (.int (Int32.ofNat (q + i))), .val (.int (Int32.ofNat len)), .val (.int (Int32.ofNat i)), .val (.int (cv A (o + i)))] [.int (lo8 (cv A (o + i))), .int (Int32.ofNat (q + i)), .ref d])) := c5.trans (by
        refine XS.iload Xl.here hexec rfl (hb hbytes d15) rfl ?_
        refine sipushV Xl.here hexec rfl 255 (hb hbytes d17) (by decide) ?_
        refine XS.icmpYes Xl.here hexec rfl (pc0 := 20) rfl (hb hbytes d20) rfl (ii_le_t (hp i (by omega))) (by decide) rfl ?_
        refine XS.aloadN Xl.here hexec rfl (hb hbytes d26) rfl rfl ?_
        refine XS.iloadN Xl.here hexec rfl (hb hbytes d27) rfl ?_
        refine XS.iload Xl.here hexec rfl (hb hbytes d28) rfl ?_
        refine i2b Xl.here hexec rfl (hb hbytes d30) rfl ?_
        exact Steps.refl _)
      obtain ⟨T7, X7, p7, st7⟩ := Xl.aput hexec hBk rfl hlt rfl (fits_lo8 (cv A (o + i))) (g := (mkF m 31 #[.val (.ref b), .val (.int (Int32.ofNat (o + i))), .val (.ref d), .val (.int (Int32.ofNat (q + i))), .val (.int (Int32.ofNat len)), .val (.int (Int32.ofNat i)), .val (.int (cv A (o + i)))] [.int (lo8 (cv A (o + i))), .int (Int32.ofNat (q + i)), .ref d])) rfl (rest := []) rfl (hb hbytes d31)
      have c8 : Steps p.tables e below (s₁.setTop (entryFrame m #[.ref b, .int (Int32.ofNat o), .ref d, .int (Int32.ofNat q), .int (Int32.ofNat len)] 7)) (T7.setTop (mkF m 32 #[.val (.ref b), .val (.int (Int32.ofNat (o + i))), .val (.ref d), .val (.int (Int32.ofNat (q + i))), .val (.int (Int32.ofNat len)), .val (.int (Int32.ofNat i)), .val (.int (cv A (o + i)))] [])) := c6.trans (st7 _ (Steps.refl _))
      have c9 : Steps p.tables e below (s₁.setTop (entryFrame m #[.ref b, .int (Int32.ofNat o), .ref d, .int (Int32.ofNat q), .int (Int32.ofNat len)] 7)) (T7.setTop (mkF m 3 #[.val (.ref b), .val (.int (Int32.ofNat (o + i) + 1)), .val (.ref d), .val (.int (Int32.ofNat (q + i) + 1)), .val (.int (Int32.ofNat len)), .val (.int (Int32.ofNat i + 1)), .val (.int (cv A (o + i)))] [])) := c8.trans (by
        refine iincV X7.here hexec rfl 1 (hb hbytes d32) (by decide) rfl rfl ?_
        refine iincV X7.here hexec rfl 1 (hb hbytes d35) (by decide) rfl rfl ?_
        refine iincV X7.here hexec rfl 1 (hb hbytes d38) (by decide) rfl rfl ?_
        refine XS.goto X7.here hexec rfl (pc0 := 41) rfl (hb hbytes d41) (by decide) rfl ?_
        exact Steps.refl _)
      have c10 : Steps p.tables e below (s₁.setTop (entryFrame m #[.ref b, .int (Int32.ofNat o), .ref d, .int (Int32.ofNat q), .int (Int32.ofNat len)] 7)) (T7.setTop (mkF m 3 #[.val (.ref b), .val (.int (Int32.ofNat (o + (i + 1)))), .val (.ref d), .val (.int (Int32.ofNat (q + (i + 1)))), .val (.int (Int32.ofNat len)), .val (.int (Int32.ofNat (i + 1))), .val (.int (cv A (o + i)))] [])) := by
        have := c9
        rw [succ32, succ32, succ32] at this
        exact this
      exact ih (i + 1) (by omega) _ (Or.inr ⟨_, rfl, rfl⟩) T7 _ (by rw [copyLocs_step, ← List.append_assoc]; exact X7) (pl.trans p7) (fl.step (by omega) hlt (by simp)) c10
  obtain ⟨T9, B9, z9, X9, p9, f9, g9⟩ := loop len 0 (by omega) .unset (Or.inl rfl) s₁ B (by simpa [copyLocs] using X0) ⟨hB0.1, fun _ _ => rfl, rfl⟩ (Laid.zero _ _ _) c2
  have c11 : Steps p.tables e below (s₁.setTop (entryFrame m #[.ref b, .int (Int32.ofNat o), .ref d, .int (Int32.ofNat q), .int (Int32.ofNat len)] 7)) (T9.setTop (mkF m 46 #[.val (.ref b), .val (.int (Int32.ofNat (o + len))), .val (.ref d), .val (.int (Int32.ofNat (q + len))), .val (.int (Int32.ofNat len)), .val (.int (Int32.ofNat len)), z9] [.int (Int32.ofNat len)])) := g9.trans (by
    refine XS.iload X9.here hexec rfl (hb hbytes d3) rfl ?_
    refine XS.iload X9.here hexec rfl (hb hbytes d5) rfl ?_
    refine XS.icmpYes X9.here hexec rfl (pc0 := 7) rfl (hb hbytes d7) rfl (ii_ge_t (nlt32 (by omega) (Nat.le_refl _))) (by decide) rfl ?_
    refine XS.iload X9.here hexec rfl (hb hbytes d44) rfl ?_
    exact Steps.refl _)
  exact ⟨T9, some (.int (Int32.ofNat len)), _, _, _, X9, by simp, rfl, rfl, (fun h => by cases h), ⟨rfl, B9, p9.from hh0, f9⟩, fun fs hl => c11.trans (X9.ireturnOut hexec hret rfl (Or.inl rfl) (hb hbytes d46) hl)⟩
end Cmp5
namespace Cmp3
def yN : MethodName := ⟨"java/lang/StringUTF16", "compress", "([CII)[B"⟩
abbrev yB : ByteArray := jdk_52_method_16_code
theorem d0 : decode yB 0 = .ok (.iload_n 2, 1) := by decide +kernel
theorem d1 : decode yB 1 = .ok (.newarray .byte, 2) := by decide +kernel
theorem d3 : decode yB 3 = .ok (.astore_n 3, 1) := by decide +kernel
theorem d4 : decode yB 4 = .ok (.aload_n 0, 1) := by decide +kernel
theorem d5 : decode yB 5 = .ok (.iload_n 1, 1) := by decide +kernel
theorem d6 : decode yB 6 = .ok (.aload_n 3, 1) := by decide +kernel
theorem d7 : decode yB 7 = .ok (.iconst 0, 1) := by decide +kernel
theorem d8 : decode yB 8 = .ok (.iload_n 2, 1) := by decide +kernel
theorem d9 : decode yB 9 = .ok (.invokestatic 115, 3) := by decide +kernel
theorem d12 : decode yB 12 = .ok (.istore 4, 2) := by decide +kernel
theorem d14 : decode yB 14 = .ok (.iload 4, 2) := by decide +kernel
theorem d16 : decode yB 16 = .ok (.iload_n 2, 1) := by decide +kernel
theorem d17 : decode yB 17 = .ok (.if_icmp (.eq) 40, 3) := by decide +kernel
theorem d57 : decode yB 57 = .ok (.aload_n 3, 1) := by decide +kernel
theorem d58 : decode yB 58 = .ok (.areturn, 1) := by decide +kernel
def site : List Cond := [.arrayClass .byte, Cmp5.tab] ++ staticW U16 115 Cmp5.yN
def tab : Cond := tabOf yN yB 6 (some (.array .byte)) site
def P (b : Addr) (A : Cell) (o len : Nat) (args : Array Value) (s : State) : Prop := args = #[.ref b, .int (Int32.ofNat o), .int (Int32.ofNat len)] ∧ Ch b A s ∧ o + len ≤ A.slots.size ∧ len ≤ 536870912 ∧ ∀ i, i < len → ¬ 255 < cv A (o + i)
def E (b : Addr) (A : Cell) (o len : Nat) (r : Option Value) (s u : State) : Prop := NewArr .byte "[B" len (fun j => .int (lo8 (cv A (o + j)))) r s u ∧ u.heap.size = s.heap.size + 1
/-- no char of the range above 255: a new byte[] of their low bytes -/
theorem law (l : Launch) (b : Addr) (A : Cell) (o len : Nat) : Law l yN 3 3 1 18 yB 6 (some (.array .byte)) site (P b A o len) (E b A o len) [] 1 len := by
  refine Law.of_walk (plainFor_of_name (by decide +kernel)) (by decide +kernel) (by decide +kernel) (by decide) (fun _ _ h => by rw [h.1]; rfl) (fun _ U U' hal hh h => ⟨h.1, h.2.1.mv hal hh, h.2.2⟩) (fun r U U' V V' h1 hal h2 h => ⟨NewArr.mv r U U' V V' h1 hal h2 h.1, by rw [h1, h2]; exact h.2⟩) ?_
  intro p e s m args below meth c s₁ X0 hexec hbytes hml hret hlk hnm hown hh0 W hP
  obtain ⟨rfl, hA, l1, l2, hp⟩ := hP
  have a31 := hA.1.2.2.2
  have c1 : Steps p.tables e below (s₁.setTop (entryFrame m #[.ref b, .int (Int32.ofNat o), .int (Int32.ofNat len)] 6)) (s₁.setTop (mkF m 0 #[.val (.ref b), .val (.int (Int32.ofNat o)), .val (.int (Int32.ofNat len)), .unset, .unset, .unset] [])) := entry rfl
  have c2 : Steps p.tables e below (s₁.setTop (entryFrame m #[.ref b, .int (Int32.ofNat o), .int (Int32.ofNat len)] 6)) (s₁.setTop (mkF m 1 #[.val (.ref b), .val (.int (Int32.ofNat o)), .val (.int (Int32.ofNat len)), .unset, .unset, .unset] [.int (Int32.ofNat len)])) := c1.trans (by
    refine XS.iloadN X0.here hexec rfl (hb hbytes d0) rfl ?_
    exact Steps.refl _)
  obtain ⟨T3, B3, X3, ba3, bs3, bv3, bh3, bf3, st3⟩ := X0.anew hexec (atype := .byte) (wk W (.arrayClass .byte)) rfl (by show len * 1 ≤ _; omega) (by omega) (g := (mkF m 1 #[.val (.ref b), .val (.int (Int32.ofNat o)), .val (.int (Int32.ofNat len)), .unset, .unset, .unset] [.int (Int32.ofNat len)])) rfl (hb hbytes d1) (rest := []) rfl (Nat.le_refl _) (by show 0 + len ≤ len; omega)
  rw [hh0] at ba3 st3
  have kp3 : XT.Kept s T3 := (XT.Kept.of_eq hh0).push bh3
  have hA3 := hA.keep X3.warmed.alike (kp3 _ _ hA.1.1)
  have hne : b ≠ s.heap.size := hA.1.ne
  have c4 : Steps p.tables e below (s₁.setTop (entryFrame m #[.ref b, .int (Int32.ofNat o), .int (Int32.ofNat len)] 6)) (T3.setTop (mkF m 3 #[.val (.ref b), .val (.int (Int32.ofNat o)), .val (.int (Int32.ofNat len)), .unset, .unset, .unset] [.ref s.heap.size])) := c2.trans (st3 _ (Steps.refl _))
  have c5 : Steps p.tables e below (s₁.setTop (entryFrame m #[.ref b, .int (Int32.ofNat o), .int (Int32.ofNat len)] 6)) (T3.setTop (mkF m 9 #[.val (.ref b), .val (.int (Int32.ofNat o)), .val (.int (Int32.ofNat len)), .val (.ref s.heap.size), .unset, .unset] [.int (Int32.ofNat len), .int 0, .ref s.heap.size, .int (Int32.ofNat o), .ref b])) := c4.trans (by
    refine XS.astoreN X3.here hexec rfl (hb hbytes d3) rfl rfl rfl ?_
    refine XS.aloadN X3.here hexec rfl (hb hbytes d4) rfl rfl ?_
    refine XS.iloadN X3.here hexec rfl (hb hbytes d5) rfl ?_
    refine XS.aloadN X3.here hexec rfl (hb hbytes d6) rfl rfl ?_
    refine iconstV X3.here hexec rfl 0 (hb hbytes d7) (by decide) ?_
    refine XS.iloadN X3.here hexec rfl (hb hbytes d8) rfl ?_
    exact Steps.refl _)
  obtain ⟨v6, T6, X6, E6, g6⟩ := X3.callS hexec (Cmp5.law l b A s.heap.size B3 o 0 len) hown (wks W (staticW U16 115 Cmp5.yN)) (wk W Cmp5.tab) (W := 0) (Nat.le_of_ble_eq_true rfl) (Nat.le_of_ble_eq_true rfl) (Nat.le_refl _) (by show 0 + len + 0 ≤ len; omega) (g := (mkF m 9 #[.val (.ref b), .val (.int (Int32.ofNat o)), .val (.int (Int32.ofNat len)), .val (.ref s.heap.size), .unset, .unset] [.int (Int32.ofNat len), .int (Int32.ofNat 0), .ref s.heap.size, .int (Int32.ofNat o), .ref b])) rfl (by rw [hml]; rfl) c5 (argsL := [.ref b, .int (Int32.ofNat o), .ref s.heap.size, .int (Int32.ofNat 0), .int (Int32.ofNat len)]) (rest := []) rfl rfl (by show 2 * 0 + 0 ≤ _; decide) (hb hbytes d9) (⟨rfl, hA3, ba3, hne, l1, by rw [bs3]; simp, hp⟩)
  obtain ⟨rfl, B6, p6, f6⟩ := E6
  have c7 : Steps p.tables e below (s₁.setTop (entryFrame m #[.ref b, .int (Int32.ofNat o), .int (Int32.ofNat len)] 6)) (T6.setTop (mkF m 12 #[.val (.ref b), .val (.int (Int32.ofNat o)), .val (.int (Int32.ofNat len)), .val (.ref s.heap.size), .unset, .unset] [.int (Int32.ofNat len)])) := g6
  have c8 : Steps p.tables e below (s₁.setTop (entryFrame m #[.ref b, .int (Int32.ofNat o), .int (Int32.ofNat len)] 6)) (T6.setTop (mkF m 58 #[.val (.ref b), .val (.int (Int32.ofNat o)), .val (.int (Int32.ofNat len)), .val (.ref s.heap.size), .val (.int (Int32.ofNat len)), .unset] [.ref s.heap.size])) := c7.trans (by
    refine XS.istore X6.here hexec rfl (hb hbytes d12) rfl rfl ?_
    refine XS.iload X6.here hexec rfl (hb hbytes d14) rfl ?_
    refine XS.iloadN X6.here hexec rfl (hb hbytes d16) rfl ?_
    refine XS.icmpYes X6.here hexec rfl (pc0 := 17) rfl (hb hbytes d17) rfl (ii_eq_t rfl) (by decide) rfl ?_
    refine XS.aloadN X6.here hexec rfl (hb hbytes d57) rfl rfl ?_
    exact Steps.refl _)
  have X8 := X6.wide (L' := []) (cells' := 1) (slots' := len) (fun x hx hlt => by
    simp only [List.nil_append, copyLocs, List.mem_map, List.mem_range] at hx
    obtain ⟨i, -, rfl⟩ := hx
    exact absurd hlt (Nat.lt_irrefl _)) (Nat.le_refl _) (by omega)
  exact ⟨T6, some (.ref s.heap.size), _, _, _, X8, rfl, rfl, rfl, (fun h => by cases h), ⟨⟨rfl, B6, ba3.like (X3.warmed.alike.symm.trans X6.warmed.alike) p6.1 f6.1 f6.2.1 f6.2.2.1, f6.2.1.trans bv3, by rw [X6.warmed.alike.findClass, f6.1]; exact bf3, by rw [f6.2.2.1, bs3]; simp, fun j hj => by rw [f6.2.2.2 j, if_pos (by omega)]; rfl, kp3.put p6 (Nat.le_refl _)⟩, by rw [p6.2.2, bh3, hh0]; simp⟩, fun fs hl => c8.trans (X8.areturnOut hexec rfl hret rfl (hb hbytes d58) hl)⟩
end Cmp3
namespace CodL
def yN : MethodName := ⟨"java/lang/StringUTF16", "coderFromArrayLen", "([BI)B"⟩
abbrev yB : ByteArray := jdk_52_method_15_code
theorem d0 : decode yB 0 = .ok (.iload_n 1, 1) := by decide +kernel
theorem d1 : decode yB 1 = .ok (.aload_n 0, 1) := by decide +kernel
theorem d2 : decode yB 2 = .ok (.arraylength, 1) := by decide +kernel
theorem d3 : decode yB 3 = .ok (.isub, 1) := by decide +kernel
theorem d4 : decode yB 4 = .ok (.bipush 31, 2) := by decide +kernel
theorem d6 : decode yB 6 = .ok (.iushr, 1) := by decide +kernel
theorem d7 : decode yB 7 = .ok (.i2b, 1) := by decide +kernel
theorem d8 : decode yB 8 = .ok (.ireturn, 1) := by decide +kernel
def site : List Cond := []
def tab : Cond := tabOf yN yB 2 (some .byte) site
def P (d : Addr) (B : Cell) (args : Array Value) (s : State) : Prop := args = #[.ref d, .int (Int32.ofNat B.slots.size)] ∧ Arr .byte d B s
def E (r : Option Value) (s u : State) : Prop := XT.PureE (some (.int 0)) r s u
/-- an array as long as the number of chars: LATIN1 -/
theorem law (l : Launch) (d : Addr) (B : Cell) : Law l yN 2 2 0 0 yB 2 (some .byte) site (P d B) E [] 0 0 := by
  refine Law.of_walk (plainFor_of_name (by decide +kernel)) (by decide +kernel) (by decide +kernel) (by decide) (fun _ _ h => by rw [h.1]; rfl) (fun _ U U' hal hh h => ⟨h.1, h.2.mv hal hh⟩) (fun r U U' V V' h1 hal h2 h => XT.PureE.mv r U U' V V' h1 hal h2 h) ?_
  intro p e s m args below meth c s₁ X0 hexec hbytes hml hret hlk hnm hown hh0 W hP
  obtain ⟨rfl, hB⟩ := hP
  have hB0 := hB.mv X0.warmed.alike hh0
  have c1 : Steps p.tables e below (s₁.setTop (entryFrame m #[.ref d, .int (Int32.ofNat B.slots.size)] 2)) (s₁.setTop (mkF m 0 #[.val (.ref d), .val (.int (Int32.ofNat B.slots.size))] [])) := entry rfl
  have c2 : Steps p.tables e below (s₁.setTop (entryFrame m #[.ref d, .int (Int32.ofNat B.slots.size)] 2)) (s₁.setTop (mkF m 2 #[.val (.ref d), .val (.int (Int32.ofNat B.slots.size))] [.ref d, .int (Int32.ofNat B.slots.size)])) := c1.trans (by
    refine XS.iloadN X0.here hexec rfl (hb hbytes d0) rfl ?_
    refine XS.aloadN X0.here hexec rfl (hb hbytes d1) rfl rfl ?_
    exact Steps.refl _)
  have c3 : Steps p.tables e below (s₁.setTop (entryFrame m #[.ref d, .int (Int32.ofNat B.slots.size)] 2)) (s₁.setTop (mkF m 8 #[.val (.ref d), .val (.int (Int32.ofNat B.slots.size))] [.int (lo8 (ushr (Int32.ofNat B.slots.size - Int32.ofNat B.slots.size) 31))])) := c2.trans (by
    refine X0.alen hexec hB0 rfl rfl (hb hbytes d2) ?_
    refine XS.isub X0.here hexec rfl (hb hbytes d3) rfl ?_
    refine bipushV X0.here hexec rfl 31 (hb hbytes d4) (by decide) ?_
    refine iushr X0.here hexec rfl (hb hbytes d6) rfl ?_
    refine i2b X0.here hexec rfl (hb hbytes d7) rfl ?_
    exact Steps.refl _)
  have e0 : lo8 (ushr (Int32.ofNat B.slots.size - Int32.ofNat B.slots.size) 31) = 0 := by rw [Int32.sub_self]; decide
  rw [e0] at c3
  exact ⟨s₁, some (.int 0), _, _, _, X0, rfl, rfl, rfl, (fun h => by cases h), ⟨rfl, hh0⟩, fun fs hl => c3.trans (X0.ireturnOut hexec hret rfl (Or.inr (Or.inr (Or.inl rfl))) (hb hbytes d8) hl)⟩
end CodL
/-- the String at a is Latin-1 over a new byte[] (the heap's one new cell): the low bytes of the len chars of A from o on; every cell but a is kept -/
def Got (a : Addr) (D : Cell) (fV fC : Field) (A : Cell) (o len : Nat) (r : Option Value) (s u : State) : Prop := r = none ∧ ∃ D' V : Cell, Blank "java/lang/String" a D' u ∧ Same D D' [fV.slot, fC.slot] ∧ D'.slots[fV.slot]? = some (.ref s.heap.size) ∧ D'.slots[fC.slot]? = some (.int 0) ∧ Arr .byte s.heap.size V u ∧ V.vm = .none ∧ u.vm.findClass "[B" = some V.cls ∧ V.slots.size = len ∧ (∀ j, j < len → V.slots[j]? = some (.int (lo8 (cv A (o + j))))) ∧ (∀ (y : Addr) (c : Cell), y ≠ a → s.heap[y]? = some c → u.heap[y]? = some c) ∧ u.heap.size = s.heap.size + 1
theorem Got.mv {a : Addr} {D A : Cell} {fV fC : Field} {o len : Nat} : ∀ r (U U' V V' : State), U'.heap = U.heap → V.vm.Alike V'.vm → V'.heap = V.heap → Got a D fV fC A o len r U V → Got a D fV fC A o len r U' V' :=
  fun r U U' V V' h1 hal h2 ⟨e0, D', X, a1, a2, a3, a4, a5, a6, a7, a8, a9, a10, a11⟩ => ⟨e0, D', X, a1.mv hal h2, a2, by rw [h1]; exact a3, a4, by rw [h1]; exact a5.mv hal h2, a6, by rw [hal.findClass]; exact a7, a8, a9, by rw [h1, h2]; exact a10, by rw [h1, h2]; exact a11⟩
namespace New4
def yN : MethodName := ⟨"java/lang/String", "<init>", "([CIILjava/lang/Void;)V"⟩
abbrev yB : ByteArray := jdk_42_method_149_code
theorem d0 : decode yB 0 = .ok (.aload_n 0, 1) := by decide +kernel
theorem d1 : decode yB 1 = .ok (.invokespecial 1, 3) := by decide +kernel
theorem d4 : decode yB 4 = .ok (.iload_n 3, 1) := by decide +kernel
theorem d5 : decode yB 5 = .ok (.ifCond (.ne) 22, 3) := by decide +kernel
theorem d27 : decode yB 27 = .ok (.getstatic 38, 3) := by decide +kernel
theorem d30 : decode yB 30 = .ok (.ifCond (.eq) 28, 3) := by decide +kernel
theorem d33 : decode yB 33 = .ok (.aload_n 1, 1) := by decide +kernel
theorem d34 : decode yB 34 = .ok (.iload_n 2, 1) := by decide +kernel
theorem d35 : decode yB 35 = .ok (.iload_n 3, 1) := by decide +kernel
theorem d36 : decode yB 36 = .ok (.invokestatic 177, 3) := by decide +kernel
theorem d39 : decode yB 39 = .ok (.astore 5, 2) := by decide +kernel
theorem d41 : decode yB 41 = .ok (.aload_n 0, 1) := by decide +kernel
theorem d42 : decode yB 42 = .ok (.aload 5, 2) := by decide +kernel
theorem d44 : decode yB 44 = .ok (.iload_n 3, 1) := by decide +kernel
theorem d45 : decode yB 45 = .ok (.invokestatic 47, 3) := by decide +kernel
theorem d48 : decode yB 48 = .ok (.putfield 15, 3) := by decide +kernel
theorem d51 : decode yB 51 = .ok (.aload_n 0, 1) := by decide +kernel
theorem d52 : decode yB 52 = .ok (.aload 5, 2) := by decide +kernel
theorem d54 : decode yB 54 = .ok (.putfield 9, 3) := by decide +kernel
theorem d57 : decode yB 57 = .ok (.return_, 1) := by decide +kernel
def site : List Cond := [.fieldLink "java/lang/String" 38 "java/lang/String" "COMPACT_STRINGS" "Z", Cmp3.tab, CodL.tab, .laysFinal "java/lang/String" "java/lang/String" "value" "[B", .fieldLink "java/lang/String" 9 "java/lang/String" "value" "[B", .laysFinal "java/lang/String" "java/lang/String" "coder" "B", .fieldLink "java/lang/String" 15 "java/lang/String" "coder" "B"] ++ objW "java/lang/String" 1 ++ staticW "java/lang/String" 177 Cmp3.yN ++ staticW "java/lang/String" 47 CodL.yN
def tab : Cond := tabOf yN yB 6 none site
def P (a : Addr) (D : Cell) (fV fC : Field) (b : Addr) (A : Cell) (z : Int32) (o len : Nat) (args : Array Value) (s : State) : Prop := args = #[.ref a, .ref b, .int (Int32.ofNat o), .int (Int32.ofNat len), .null] ∧ Blank "java/lang/String" a D s ∧ Found "java/lang/String" "value" "[B" fV s ∧ Found "java/lang/String" "coder" "B" fC s ∧ Ch b A s ∧ StaticIs s "java/lang/String" "COMPACT_STRINGS" "Z" (.int z) ∧ ¬ z = 0 ∧ 0 < len ∧ o + len ≤ A.slots.size ∧ len ≤ 536870912 ∧ ∀ i, i < len → ¬ 255 < cv A (o + i)
def E (a : Addr) (D : Cell) (fV fC : Field) (A : Cell) (o len : Nat) (r : Option Value) (s u : State) : Prop := Got a D fV fC A o len r s u
/-- len > 0, no char of the range above 255: a Latin-1 String of their low bytes -/
theorem law (l : Launch) (a : Addr) (D : Cell) (fV fC : Field) (b : Addr) (A : Cell) (z : Int32) (o len : Nat) : Law l yN 5 4 2 35 yB 6 none site (P a D fV fC b A z o len) (E a D fV fC A o len) [⟨a, fC.slot⟩, ⟨a, fV.slot⟩] 1 len := by
  refine Law.of_walk (plainFor_of_name (by decide +kernel)) (by decide +kernel) (by decide +kernel) (by decide) (fun _ _ h => by rw [h.1]; rfl) (fun _ U U' hal hh h => ⟨h.1, h.2.1.mv hal hh, h.2.2.1.al hal, h.2.2.2.1.al hal, h.2.2.2.2.1.mv hal hh, h.2.2.2.2.2.1.there hal hh, h.2.2.2.2.2.2⟩) (fun r U U' V V' h1 hal h2 h => Got.mv r U U' V V' h1 hal h2 h) ?_
  intro p e s m args below meth c s₁ X0 hexec hbytes hml hret hlk hnm hown hh0 W hP
  obtain ⟨rfl, hB, f1, f2, hA, s1, hz, l0, l1, l2, hp⟩ := hP
  have a31 := hA.1.2.2.2
  have c1 : Steps p.tables e below (s₁.setTop (entryFrame m #[.ref a, .ref b, .int (Int32.ofNat o), .int (Int32.ofNat len), .null] 6)) (s₁.setTop (mkF m 0 #[.val (.ref a), .val (.ref b), .val (.int (Int32.ofNat o)), .val (.int (Int32.ofNat len)), .val .null, .unset] [])) := entry rfl
  have c2 : Steps p.tables e below (s₁.setTop (entryFrame m #[.ref a, .ref b, .int (Int32.ofNat o), .int (Int32.ofNat len), .null] 6)) (s₁.setTop (mkF m 1 #[.val (.ref a), .val (.ref b), .val (.int (Int32.ofNat o)), .val (.int (Int32.ofNat len)), .val .null, .unset] [.ref a])) := c1.trans (by
    refine XS.aloadN X0.here hexec rfl (hb hbytes d0) rfl rfl ?_
    exact Steps.refl _)
  obtain ⟨T3, X3, q3, st3⟩ := X0.oinit hexec hown (wks W (objW "java/lang/String" 1)) (g := (mkF m 1 #[.val (.ref a), .val (.ref b), .val (.int (Int32.ofNat o)), .val (.int (Int32.ofNat len)), .val .null, .unset] [.ref a])) rfl (by rw [hml]; rfl) (rest := []) rfl (hb hbytes d1) (W := 0) (by show 2 * 0 + 0 ≤ _; decide) (Nat.le_of_ble_eq_true rfl) (Nat.le_of_ble_eq_true rfl)
  have hh3 := q3.trans hh0
  have c4 : Steps p.tables e below (s₁.setTop (entryFrame m #[.ref a, .ref b, .int (Int32.ofNat o), .int (Int32.ofNat len), .null] 6)) (T3.setTop (mkF m 27 #[.val (.ref a), .val (.ref b), .val (.int (Int32.ofNat o)), .val (.int (Int32.ofNat len)), .val .null, .unset] [])) := (c2.trans (st3 _ (Steps.refl _))).trans (by
    refine XS.iloadN X3.here hexec rfl (hb hbytes d4) rfl ?_
    refine XS.ifYes X3.here hexec rfl (pc0 := 5) rfl (hb hbytes d5) rfl (i0_ne_t (nz32 (by omega) l0)) (by decide) rfl ?_
    exact Steps.refl _)
  obtain ⟨T5, X5, q5, st5⟩ := X3.sget hexec hown (wk W (.fieldLink "java/lang/String" 38 "java/lang/String" "COMPACT_STRINGS" "Z")) s1 (fun _ _ h => by rw [hh3]; exact h) (g := (mkF m 27 #[.val (.ref a), .val (.ref b), .val (.int (Int32.ofNat o)), .val (.int (Int32.ofNat len)), .val .null, .unset] [])) rfl (hb hbytes d27)
  have hh5 := q5.trans hh3
  have c6 : Steps p.tables e below (s₁.setTop (entryFrame m #[.ref a, .ref b, .int (Int32.ofNat o), .int (Int32.ofNat len), .null] 6)) (T5.setTop (mkF m 30 #[.val (.ref a), .val (.ref b), .val (.int (Int32.ofNat o)), .val (.int (Int32.ofNat len)), .val .null, .unset] [.int z])) := c4.trans (st5 _ (Steps.refl _))
  have c7 : Steps p.tables e below (s₁.setTop (entryFrame m #[.ref a, .ref b, .int (Int32.ofNat o), .int (Int32.ofNat len), .null] 6)) (T5.setTop (mkF m 36 #[.val (.ref a), .val (.ref b), .val (.int (Int32.ofNat o)), .val (.int (Int32.ofNat len)), .val .null, .unset] [.int (Int32.ofNat len), .int (Int32.ofNat o), .ref b])) := c6.trans (by
    refine XS.ifNo X5.here hexec rfl (hb hbytes d30) rfl (i0_eq_f hz) ?_
    refine XS.aloadN X5.here hexec rfl (hb hbytes d33) rfl rfl ?_
    refine XS.iloadN X5.here hexec rfl (hb hbytes d34) rfl ?_
    refine XS.iloadN X5.here hexec rfl (hb hbytes d35) rfl ?_
    exact Steps.refl _)
  obtain ⟨v8, T8, X8, E8, g8⟩ := X5.callS hexec (Cmp3.law l b A o len) hown (wks W (staticW "java/lang/String" 177 Cmp3.yN)) (wk W Cmp3.tab) (W := 0) (Nat.le_of_ble_eq_true rfl) (Nat.le_of_ble_eq_true rfl) (Nat.le_refl _) (by show 0 + len ≤ len; omega) (g := (mkF m 36 #[.val (.ref a), .val (.ref b), .val (.int (Int32.ofNat o)), .val (.int (Int32.ofNat len)), .val .null, .unset] [.int (Int32.ofNat len), .int (Int32.ofNat o), .ref b])) rfl (by rw [hml]; rfl) c7 (argsL := [.ref b, .int (Int32.ofNat o), .int (Int32.ofNat len)]) (rest := []) rfl rfl (by show 2 * 0 + 0 ≤ _; decide) (hb hbytes d36) (⟨rfl, hA.mv X5.warmed.alike hh5, l1, l2, hp⟩)
  obtain ⟨e8, z8⟩ := E8
  obtain ⟨rfl, N, n1, n2, n3, n4, n5, n6⟩ := NewArr.mv _ T5 s _ _ hh5.symm (Vm.Alike.refl _) rfl e8
  rw [hh5] at z8
  have hB1 := hB.keep X8.warmed.alike (n6 _ _ hB.1)
  have hne : s.heap.size ≠ a := (Nat.ne_of_lt (Array.getElem?_eq_some_iff.mp hB.1).1).symm
  have c9 : Steps p.tables e below (s₁.setTop (entryFrame m #[.ref a, .ref b, .int (Int32.ofNat o), .int (Int32.ofNat len), .null] 6)) (T8.setTop (mkF m 39 #[.val (.ref a), .val (.ref b), .val (.int (Int32.ofNat o)), .val (.int (Int32.ofNat len)), .val .null, .unset] [.ref s.heap.size])) := g8
  have c10 : Steps p.tables e below (s₁.setTop (entryFrame m #[.ref a, .ref b, .int (Int32.ofNat o), .int (Int32.ofNat len), .null] 6)) (T8.setTop (mkF m 45 #[.val (.ref a), .val (.ref b), .val (.int (Int32.ofNat o)), .val (.int (Int32.ofNat len)), .val .null, .val (.ref s.heap.size)] [.int (Int32.ofNat N.slots.size), .ref s.heap.size, .ref a])) := by
    have hc : Steps p.tables e below (s₁.setTop (entryFrame m #[.ref a, .ref b, .int (Int32.ofNat o), .int (Int32.ofNat len), .null] 6)) (T8.setTop (mkF m 45 #[.val (.ref a), .val (.ref b), .val (.int (Int32.ofNat o)), .val (.int (Int32.ofNat len)), .val .null, .val (.ref s.heap.size)] [.int (Int32.ofNat len), .ref s.heap.size, .ref a])) := c9.trans (by
      refine XS.astore X8.here hexec rfl (hb hbytes d39) rfl rfl rfl ?_
      refine XS.aloadN X8.here hexec rfl (hb hbytes d41) rfl rfl ?_
      refine XS.aload X8.here hexec rfl (hb hbytes d42) rfl rfl ?_
      refine XS.iloadN X8.here hexec rfl (hb hbytes d44) rfl ?_
      exact Steps.refl _)
    rw [n4]; exact hc
  obtain ⟨v11, T11, X11, E11, g11⟩ := X8.callS hexec (CodL.law l s.heap.size N) hown (wks W (staticW "java/lang/String" 47 CodL.yN)) (wk W CodL.tab) (W := 1) (Nat.le_of_ble_eq_true rfl) (Nat.le_of_ble_eq_true rfl) (Nat.le_refl _) (by show 0 + len + 0 ≤ len; omega) (g := (mkF m 45 #[.val (.ref a), .val (.ref b), .val (.int (Int32.ofNat o)), .val (.int (Int32.ofNat len)), .val .null, .val (.ref s.heap.size)] [.int (Int32.ofNat N.slots.size), .ref s.heap.size, .ref a])) rfl (by rw [hml]; rfl) c10 (argsL := [.ref s.heap.size, .int (Int32.ofNat N.slots.size)]) (rest := [.ref a]) rfl rfl (by show 2 * 0 + (1 + 0) ≤ _; decide) (hb hbytes d45) (⟨rfl, n1⟩)
  obtain ⟨rfl, q11⟩ := E11
  have hB11 := hB1.mv (X8.warmed.alike.symm.trans X11.warmed.alike) q11
  have c12 : Steps p.tables e below (s₁.setTop (entryFrame m #[.ref a, .ref b, .int (Int32.ofNat o), .int (Int32.ofNat len), .null] 6)) (T11.setTop (mkF m 48 #[.val (.ref a), .val (.ref b), .val (.int (Int32.ofNat o)), .val (.int (Int32.ofNat len)), .val .null, .val (.ref s.heap.size)] [.int 0, .ref a])) := g11
  obtain ⟨T13, X13, p13, bl13, sl13, st13⟩ := X11.finit hexec hown (wk W (.fieldLink "java/lang/String" 15 "java/lang/String" "coder" "B")) (Or.inr ⟨_, (wk W (.laysFinal "java/lang/String" "java/lang/String" "coder" "B"))⟩) (Or.inl ⟨rfl, hnm⟩) f2 (Or.inl rfl) hB11 (t := .byte) (by decide +kernel) rfl (g := (mkF m 48 #[.val (.ref a), .val (.ref b), .val (.int (Int32.ofNat o)), .val (.int (Int32.ofNat len)), .val .null, .val (.ref s.heap.size)] [.int 0, .ref a])) rfl (rest := []) rfl (hb hbytes d48)
  have c14 : Steps p.tables e below (s₁.setTop (entryFrame m #[.ref a, .ref b, .int (Int32.ofNat o), .int (Int32.ofNat len), .null] 6)) (T13.setTop (mkF m 54 #[.val (.ref a), .val (.ref b), .val (.int (Int32.ofNat o)), .val (.int (Int32.ofNat len)), .val .null, .val (.ref s.heap.size)] [.ref s.heap.size, .ref a])) := (c12.trans (st13 _ (Steps.refl _))).trans (by
    refine XS.aloadN X13.here hexec rfl (hb hbytes d51) rfl rfl ?_
    refine XS.aload X13.here hexec rfl (hb hbytes d52) rfl rfl ?_
    exact Steps.refl _)
  obtain ⟨T15, X15, p15, bl15, sl15, st15⟩ := X13.finit hexec hown (wk W (.fieldLink "java/lang/String" 9 "java/lang/String" "value" "[B")) (Or.inr ⟨_, (wk W (.laysFinal "java/lang/String" "java/lang/String" "value" "[B"))⟩) (Or.inl ⟨rfl, hnm⟩) f1 (Or.inl rfl) bl13 (t := (.array .byte)) (by decide +kernel) rfl (g := (mkF m 54 #[.val (.ref a), .val (.ref b), .val (.int (Int32.ofNat o)), .val (.int (Int32.ofNat len)), .val .null, .val (.ref s.heap.size)] [.ref s.heap.size, .ref a])) rfl (rest := []) rfl (hb hbytes d54)
  have c16 : Steps p.tables e below (s₁.setTop (entryFrame m #[.ref a, .ref b, .int (Int32.ofNat o), .int (Int32.ofNat len), .null] 6)) (T15.setTop (mkF m 57 #[.val (.ref a), .val (.ref b), .val (.int (Int32.ofNat o)), .val (.int (Int32.ofNat len)), .val .null, .val (.ref s.heap.size)] [])) := c14.trans (st15 _ (Steps.refl _))
  have ap := apart (Or.inr ⟨_, (wk W (.laysFinal "java/lang/String" "java/lang/String" "value" "[B"))⟩) (Or.inr ⟨_, (wk W (.laysFinal "java/lang/String" "java/lang/String" "coder" "B"))⟩) f1 f2 (t₁ := .array .byte) (t₂ := .byte) (by decide +kernel) (by decide +kernel) (by decide)
  have al := X8.warmed.alike.symm.trans X15.warmed.alike
  have n7 : T11.heap[s.heap.size]? = some N := by rw [q11]; exact n1.1
  exact ⟨T15, none, _, _, _, X15, by simp, rfl, by omega, (fun _ => rfl), ⟨rfl, _, N, bl15, ((Same.refl D _).set _ (by simp)).set _ (by simp), sl15, (Cell.slots_setSlot_ne _ ap).trans sl13, n1.keep al (p15.other hne (p13.other hne n7)), n2, by rw [al.findClass]; exact n3, n4, n5, fun y c h1 h2 => p15.other h1 (p13.other h1 (by rw [q11]; exact n6 y c h2)), by rw [p15.2.2, p13.2.2, q11]; exact z8⟩, fun fs hl => c16.trans (X15.returnOut hexec hret (hb hbytes d57) hl)⟩
end New4
namespace New1
def yN : MethodName := ⟨"java/lang/String", "<init>", "([C)V"⟩
abbrev yB : ByteArray := jdk_42_method_3_code
theorem d0 : decode yB 0 = .ok (.aload_n 0, 1) := by decide +kernel
theorem d1 : decode yB 1 = .ok (.aload_n 1, 1) := by decide +kernel
theorem d2 : decode yB 2 = .ok (.iconst 0, 1) := by decide +kernel
theorem d3 : decode yB 3 = .ok (.aload_n 1, 1) := by decide +kernel
theorem d4 : decode yB 4 = .ok (.arraylength, 1) := by decide +kernel
theorem d5 : decode yB 5 = .ok (.aconst_null, 1) := by decide +kernel
theorem d6 : decode yB 6 = .ok (.invokespecial 27, 3) := by decide +kernel
theorem d9 : decode yB 9 = .ok (.return_, 1) := by decide +kernel
def site : List Cond := [New4.tab] ++ initW "java/lang/String" 27 New4.yN
def tab : Cond := tabOf yN yB 2 none site
def P (a : Addr) (D : Cell) (fV fC : Field) (b : Addr) (A : Cell) (z : Int32) (args : Array Value) (s : State) : Prop := args = #[.ref a, .ref b] ∧ Blank "java/lang/String" a D s ∧ Found "java/lang/String" "value" "[B" fV s ∧ Found "java/lang/String" "coder" "B" fC s ∧ Ch b A s ∧ StaticIs s "java/lang/String" "COMPACT_STRINGS" "Z" (.int z) ∧ ¬ z = 0 ∧ 0 < A.slots.size ∧ A.slots.size ≤ 536870912 ∧ ∀ i, i < A.slots.size → ¬ 255 < cv A i
def E (a : Addr) (D : Cell) (fV fC : Field) (A : Cell) (r : Option Value) (s u : State) : Prop := Got a D fV fC A 0 A.slots.size r s u
/-- new String(chars), not empty, no char above 255: a Latin-1 String of their low bytes -/
theorem law (l : Launch) (a : Addr) (D : Cell) (fV fC : Field) (b : Addr) (A : Cell) (z : Int32) : Law l yN 2 1 3 52 yB 2 none site (P a D fV fC b A z) (E a D fV fC A) [⟨a, fC.slot⟩, ⟨a, fV.slot⟩] 1 A.slots.size := by
  refine Law.of_walk (plainFor_of_name (by decide +kernel)) (by decide +kernel) (by decide +kernel) (by decide) (fun _ _ h => by rw [h.1]; rfl) (fun _ U U' hal hh h => ⟨h.1, h.2.1.mv hal hh, h.2.2.1.al hal, h.2.2.2.1.al hal, h.2.2.2.2.1.mv hal hh, h.2.2.2.2.2.1.there hal hh, h.2.2.2.2.2.2⟩) (fun r U U' V V' h1 hal h2 h => Got.mv r U U' V V' h1 hal h2 h) ?_
  intro p e s m args below meth c s₁ X0 hexec hbytes hml hret hlk hnm hown hh0 W hP
  obtain ⟨rfl, hB, f1, f2, hA, s1, hz, l0, l2, hp⟩ := hP
  have c1 : Steps p.tables e below (s₁.setTop (entryFrame m #[.ref a, .ref b] 2)) (s₁.setTop (mkF m 0 #[.val (.ref a), .val (.ref b)] [])) := entry rfl
  have c2 : Steps p.tables e below (s₁.setTop (entryFrame m #[.ref a, .ref b] 2)) (s₁.setTop (mkF m 6 #[.val (.ref a), .val (.ref b)] [.null, .int (Int32.ofNat A.slots.size), .int 0, .ref b, .ref a])) := c1.trans (by
    refine XS.aloadN X0.here hexec rfl (hb hbytes d0) rfl rfl ?_
    refine XS.aloadN X0.here hexec rfl (hb hbytes d1) rfl rfl ?_
    refine iconstV X0.here hexec rfl 0 (hb hbytes d2) (by decide) ?_
    refine XS.aloadN X0.here hexec rfl (hb hbytes d3) rfl rfl ?_
    refine X0.alen hexec (hA.1.mv X0.warmed.alike hh0) rfl rfl (hb hbytes d4) ?_
    refine XS.aconstNull X0.here hexec rfl (hb hbytes d5) ?_
    exact Steps.refl _)
  obtain ⟨v3, T3, X3, E3, g3⟩ := X0.callN hexec (New4.law l a D fV fC b A z 0 A.slots.size) rfl hown (wks W (initW "java/lang/String" 27 New4.yN)) (W New4.tab (by simp only [site, List.mem_cons, List.mem_append, true_or, or_true])) (W := 0) (Nat.le_of_ble_eq_true rfl) (Nat.le_of_ble_eq_true rfl) (Nat.le_refl _) (by show 0 + A.slots.size ≤ A.slots.size; omega) (g := (mkF m 6 #[.val (.ref a), .val (.ref b)] [.null, .int (Int32.ofNat A.slots.size), .int (Int32.ofNat 0), .ref b, .ref a])) rfl (by rw [hml]; rfl) c2 (argsL := [.ref b, .int (Int32.ofNat 0), .int (Int32.ofNat A.slots.size), .null]) (rest := []) rfl rfl (by show 2 * 0 + 0 ≤ _; decide) (hb hbytes d6) (⟨rfl, hB.mv X0.warmed.alike hh0, f1.al X0.warmed.alike, f2.al X0.warmed.alike, hA.mv X0.warmed.alike hh0, s1.there X0.warmed.alike hh0, hz, l0, by omega, l2, fun i hi => by rw [Nat.zero_add]; exact hp i hi⟩)
  have e0 := Got.mv _ s₁ s _ _ hh0.symm (Vm.Alike.refl _) rfl E3
  obtain rfl := e0.1
  have c4 : Steps p.tables e below (s₁.setTop (entryFrame m #[.ref a, .ref b] 2)) (T3.setTop (mkF m 9 #[.val (.ref a), .val (.ref b)] [])) := g3
  exact ⟨T3, none, _, _, _, X3, by simp, rfl, by omega, (fun _ => rfl), e0, fun fs hl => c4.trans (X3.returnOut hexec hret (hb hbytes d9) hl)⟩
theorem pays {l : Launch} {R : Room} {p : Program} {e : Env} {below : List Frame} {s : State} {sargs : Array Value} {len W : Nat} (a : Addr) (D : Cell) (fV fC : Field) (b : Addr) (A : Cell) (z : Int32) (htab : tab.before sargs s = true) (hfr : 4 ≤ R.frames) (hlo : W + 65 ≤ R.locals) :
    Back l R p e below s sargs yN len W (fun A₁ a₁ => A₁.cells + 1 ≤ R.cells ∧ A₁.slots + A.slots.size ≤ R.slots ∧ P a D fV fC b A z a₁ A₁.U) (fun A₁ _ v₁ B₁ => E a D fV fC A v₁ A₁.U B₁.U ∧ B₁.locs = A₁.locs ++ [⟨a, fC.slot⟩, ⟨a, fV.slot⟩] ∧ B₁.cells = A₁.cells + 1 ∧ B₁.slots = A₁.slots + A.slots.size) :=
  (law l a D fV fC b A z).pays htab hfr (by omega)
end New1
/-- the byte, read back as charAt reads it, is the char -/
theorem lo8_mask {x : Int32} (h0 : ¬ x < 0) (h1 : ¬ 255 < x) : lo8 x &&& 255 = x := by
  have t : ∀ k : Fin 256, lo8 (Int32.ofNat k.val) &&& 255 = Int32.ofNat k.val := by decide +kernel
  rw [Int32.lt_iff_toInt_lt] at h0 h1
  have e0 : (0 : Int32).toInt = 0 := rfl
  have e1 : (255 : Int32).toInt = 255 := rfl
  obtain ⟨k, hk⟩ : ∃ k : Nat, x.toInt = k := ⟨x.toInt.toNat, by omega⟩
  have hx : x = Int32.ofNat k := Int32.toInt_inj.mp (by rw [hk, Int32.toInt_ofNat_small (by omega)])
  rw [hx]
  exact t ⟨k, by omega⟩
end StrChars
namespace StrChars.Road
open Jvm Sem ClassFile Op Lib Jvm.Stand Jvm.Free Jvm.Free.XT
open Jvm.Lib.Cold (StaticIs)
abbrev ST : String := "java/lang/String"
/-- every table word that New1's law asks, flat -/
abbrev words : List Jvm.Cond := [.code New1.yN New1.yB 2 none, .initialized ST, .methodLink ST 27 New4.yN, .instanceMethod New4.yN,
  .code New4.yN New4.yB 6 none, .fieldLink ST 38 ST "COMPACT_STRINGS" "Z", .laysFinal ST ST "value" "[B", .fieldLink ST 9 ST "value" "[B", .laysFinal ST ST "coder" "B", .fieldLink ST 15 ST "coder" "B",
  .methodLink ST 1 Lib.objectInit, .instanceMethod Lib.objectInit, .code Lib.objectInit ⟨#[0xb1]⟩ 1 none, .methodLink ST 177 Cmp3.yN, .static Cmp3.yN, .methodLink ST 47 CodL.yN, .static CodL.yN,
  .code Cmp3.yN Cmp3.yB 6 (some (.array .byte)), .initialized U16, .arrayClass .byte, .methodLink U16 115 Cmp5.yN, .static Cmp5.yN, .code Cmp5.yN Cmp5.yB 7 (some .int), .code CodL.yN CodL.yB 2 (some .byte)]
theorem tab_of {a : Array Value} {s : State} (h : ∀ w ∈ words, w.before a s = true) : New1.tab.before a s = true := by
  have h5 : Cmp5.tab.before a s = true := unparts (wk h (.code Cmp5.yN Cmp5.yB 7 (some .int))) (wks h (.initialized Cmp5.yN.cls :: Cmp5.site))
  have hc : CodL.tab.before a s = true := unparts (wk h (.code CodL.yN CodL.yB 2 (some .byte))) (wks h (.initialized CodL.yN.cls :: CodL.site))
  have q5 : ∀ w ∈ Cmp5.tab :: words, w.before a s = true := fun w hw => (List.mem_cons.mp hw).elim (fun e => e ▸ h5) (h w)
  have h3 : Cmp3.tab.before a s = true := unparts (wk q5 (.code Cmp3.yN Cmp3.yB 6 (some (.array .byte)))) (wks q5 (.initialized Cmp3.yN.cls :: Cmp3.site))
  have q3 : ∀ w ∈ Cmp3.tab :: CodL.tab :: words, w.before a s = true := fun w hw => (List.mem_cons.mp hw).elim (fun e => e ▸ h3) fun hw => (List.mem_cons.mp hw).elim (fun e => e ▸ hc) (h w)
  have h4 : New4.tab.before a s = true := unparts (wk q3 (.code New4.yN New4.yB 6 none)) (wks q3 (.initialized New4.yN.cls :: New4.site))
  have q4 : ∀ w ∈ New4.tab :: words, w.before a s = true := fun w hw => (List.mem_cons.mp hw).elim (fun e => e ▸ h4) (h w)
  exact unparts (wk q4 (.code New1.yN New1.yB 2 none)) (wks q4 (.initialized New1.yN.cls :: New1.site))
/-- the words ride from the start Z to the walk's own state -/
theorem moved {Z s : State} {a0 args : Array Value} (hZ : Z.Warmed39 s.vm) (hw : ∀ d ∈ words, d.before a0 Z = true) : ∀ d ∈ words, d.before args s = true := fun d hd => by
  have q := hw d hd
  have t : ∀ d ∈ words, d = .arrayClass .byte ∨ (d.onTables && d.keepsFace) = true := by decide +kernel
  rcases t d hd with rfl | t
  · exact RoadKit.mvA hZ q
  · exact RoadKit.mv hZ q t
/-- WHAT COMES BACK, over the tables of the start Z: h the heap at the call, h' behind it -/
def Q (Z : State) (x : Addr) (A : Cell) (h : Heap) (v : Option Value) (h' : Heap) (L : List Loc) : Prop := v = none ∧ (∀ y ∈ L, y.base = x) ∧ RoadKit.Keep h h' [x] ∧ h'.size = h.size + 1 ∧ RoadKit.Exa Z h' x ST ∧ RoadKit.Fld Z h' x ST "value" "[B" (.ref h.size) ∧ RoadKit.Fld Z h' x ST "coder" "B" (.int 0) ∧
  (∃ V : Cell, RoadKit.Arr Z h' h.size V .byte ∧ V.vm = .none ∧ Z.vm.findClass "[B" = some V.cls ∧ V.slots.size = A.slots.size ∧ ∀ j, j < A.slots.size → V.slots[j]? = some (.int (lo8 (cv A j)))) ∧
  ∀ (O n d : String) (w : Value), RoadKit.Fld Z h x O n d w → RoadKit.slotOf Z O n d ≠ RoadKit.slotOf Z ST "value" "[B" → RoadKit.slotOf Z O n d ≠ RoadKit.slotOf Z ST "coder" "B" → RoadKit.Fld Z h' x O n d w
/-- **new String(chars) AT A CALL, IN THE ROAD'S FORM**: for specialBack behind newO: x the fresh String, b the char[] with the cell A -/
theorem back {p : Program} {l : Launch} {e : Env} {R : Room} {s : State} {args : Array Value} {below : List Frame} {len W : Nat} {Z : State} {a0 : Array Value} {h : Heap} (hZ : Z.Warmed39 s.vm) (hw : ∀ d ∈ words, d.before a0 Z = true) {kI : Nat} (wi : (Jvm.Cond.instantiable ST kI).before a0 Z = true)
    {x b : Addr} {A : Cell} {z : Int32} {v0 c0 : Value} (E : RoadKit.Exa Z h x ST) (V : RoadKit.Fld Z h x ST "value" "[B" v0) (C : RoadKit.Fld Z h x ST "coder" "B" c0) (K : RoadKit.Arr Z h b A .char) (hty : Typed .char A) (S : RoadKit.Sta Z h ST "COMPACT_STRINGS" "Z" (.int z)) (hz : ¬ z = 0)
    (l0 : 0 < A.slots.size) (l2 : A.slots.size ≤ 536870912) (hp : ∀ i, i < A.slots.size → ¬ 255 < cv A i) (hfr : 4 ≤ R.frames) (hlo : W + 65 ≤ R.locals) :
    Back l R p e below s args New1.yN len W (fun P a => a = #[.ref x, .ref b] ∧ P.U.heap = h ∧ P.cells + 1 ≤ R.cells ∧ P.slots + A.slots.size ≤ R.slots)
      (fun P _ v B => ∃ L, Q Z x A h v B.U.heap L ∧ B.locs = P.locs ++ L ∧ B.cells = P.cells + 1 ∧ B.slots = P.slots + A.slots.size) := by
  intro m meth c P g ig mk a X hg hsize hdg hW hn hp'
  obtain ⟨rfl, rfl, r1, r2⟩ := hp'
  have al : Z.vm.Alike P.U.vm := hZ.alike.trans X.warmed.alike
  obtain ⟨D, cfV, kV, iV, fV, hD, gV, stV, knV, obV, asV, slV⟩ := id V
  obtain ⟨D', cfC, kC, iC, fC, hD', gC, stC, -, -, asC, slC⟩ := id C
  cases hD.symm.trans hD'
  obtain ⟨D2, kD, e1, e2, e3, e4, e5⟩ := id E
  cases hD.symm.trans e1
  obtain ⟨c2, k2, i1, i2, i3, -⟩ := Cond.instantiable_spec wi
  cases e2.symm.trans i1
  cases e3.symm.trans i2
  obtain ⟨kU, u1, u2⟩ := al.2.2 _ _ e3
  have hB : Blank ST x D P.U := ⟨hD, ⟨knV, fun q hq => by rw [hq] at obV; cases obV⟩, by rw [al.findClass]; exact e2, kU, u1, by rw [u2]; exact i3, by rw [u2]; exact e5 i3⟩
  have F1 : Found ST "value" "[B" fV P.U := ⟨SBG.found_only al ⟨cfV, kV, iV, gV⟩, stV⟩
  have F2 : Found ST "coder" "B" fC P.U := ⟨SBG.found_only al ⟨cfC, kC, iC, gC⟩, stC⟩
  have hA : Ch b A P.U := ⟨⟨K.1, State.isArrayOf_alike al K.2.1, K.2.2, by omega⟩, hty⟩
  have hS : StaticIs P.U ST "COMPACT_STRINGS" "Z" (.int z) := by
    obtain ⟨cfS, iS, kS, fS, st, cS, t1, t2, t3, t4, t5, t6, t7⟩ := S
    exact StaticIs.there (s := { Z with heap := P.U.heap }) ⟨cfS, iS, kS, fS, st, cS, t1, t2, t3, t4, t5, (fun q => by rw [q] at t6; cases t6), t7⟩ al rfl
  obtain ⟨v, B, X', ⟨⟨hv, E', V', q1, q2, q3, q4, q5, q6, q7, q8, q9, q10, q11⟩, hl, hc, hs⟩, st⟩ := New1.pays x D fV fC b A z (tab_of (moved hZ hw)) hfr hlo m meth c P g ig mk _ X hg hsize hdg hW hn ⟨r1, r2, rfl, hB, F1, F2, hA, hS, hz, l0, l2, hp⟩
  have al' : Z.vm.Alike B.U.vm := hZ.alike.trans X'.warmed.alike
  have hsz : E'.slots.size = D.slots.size := by
    obtain ⟨-, -, -, kB, w1, w2, w3⟩ := q1
    obtain ⟨kB', y1, y2⟩ := al'.2.2 _ _ e3
    rw [q2.2.1] at w1
    cases w1.symm.trans y1
    rw [w3, e5 i3, y2]
  refine ⟨v, B, X', ⟨_, ⟨hv, ?_, ⟨by omega, fun y cy hy hn' => q10 y cy (by simpa using hn') hy, fun y cy hy => ?_⟩, q11, ⟨E', _, q1.1, by rw [q2.2.1]; exact e2, by rw [q2.2.1]; exact e3, by rw [q2.1]; exact obV, fun _ => by rw [hsz]; exact e5 i3⟩,
    ⟨E', cfV, kV, iV, fV, q1.1, gV, stV, by rw [q2.1]; exact knV, by rw [q2.1]; exact obV, by rw [q2.2.1]; exact asV, q3⟩, ⟨E', cfC, kC, iC, fC, q1.1, gC, stC, by rw [q2.1]; exact knV, by rw [q2.1]; exact obV, by rw [q2.2.1]; exact asC, q4⟩,
    ⟨V', ⟨q5.1, State.isArrayOf_alike al'.symm q5.2.1, q5.2.2.1⟩, q6, by rw [← al'.findClass]; exact q7, q8, fun j hj => by have := q9 j hj; rwa [Nat.zero_add] at this⟩, fun O n d w F n1 n2 => ?_⟩, hl, hc, hs⟩, st⟩
  · intro y hy
    simp only [List.mem_cons, List.not_mem_nil, or_false] at hy
    rcases hy with rfl | rfl <;> rfl
  · by_cases q : y = x
    · subst q
      cases hD.symm.trans hy
      exact ⟨E', q1.1, q2.2.1, q2.1, hsz⟩
    · exact ⟨cy, q10 y cy q hy, rfl, rfl, rfl⟩
  · obtain ⟨D3, cf, k, i, f, g1, g2, g3, g4, g5, g6, g7⟩ := F
    cases hD.symm.trans g1
    simp only [RoadKit.slotOf, g2, gV, gC, Option.map_some, Option.getD_some] at n1 n2
    exact ⟨E', cf, k, i, f, q1.1, g2, g3, by rw [q2.1]; exact g4, by rw [q2.1]; exact g5, by rw [q2.2.1]; exact g6, by rw [q2.2.2 f.slot (by simp [n1, n2])]; exact g7⟩
end StrChars.Road
namespace StrChars.Road
open Jvm Sem ClassFile Op Lib Jvm.Stand Jvm.Free Jvm.Free.XT
/-- WHAT COMES BACK, the byte[] as a list of values -/
def QA (Z : State) (x : Addr) (zn : Int32) (cs : List Int32) (h : Heap) (v : Option Value) (h' : Heap) (L : List Loc) : Prop := v = none ∧ (∀ y ∈ L, y.base = x) ∧ RoadKit.Keep h h' [x] ∧ h'.size = h.size + 1 ∧ RoadKit.Exa Z h' x ST ∧ RoadKit.Fld Z h' x ST "value" "[B" (.ref h.size) ∧ RoadKit.Fld Z h' x ST "coder" "B" (.int 0) ∧
  (∃ kb, Z.vm.findClass "[B" = some kb ∧ RoadKit.Arv Z h' h.size kb .byte zn (cs.map fun c => .int (lo8 c)) (.int 0)) ∧
  ∀ (O n d : String) (w : Value), RoadKit.Fld Z h x O n d w → RoadKit.slotOf Z O n d ≠ RoadKit.slotOf Z ST "value" "[B" → RoadKit.slotOf Z O n d ≠ RoadKit.slotOf Z ST "coder" "B" → RoadKit.Fld Z h' x O n d w
/-- **new String(chars) AT A CALL, THE ARRAYS AS LISTS**: the char[] at b holds cs, not empty, no char above 255 -/
theorem backArv {p : Program} {l : Launch} {e : Env} {R : Room} {s : State} {args : Array Value} {below : List Frame} {len W : Nat} {Z : State} {a0 : Array Value} {h : Heap} (hZ : Z.Warmed39 s.vm) (hw : ∀ d ∈ words, d.before a0 Z = true) {kI : Nat} (wi : (Jvm.Cond.instantiable ST kI).before a0 Z = true)
    {x b : Addr} {k : ClassId} {zn z : Int32} {cs : List Int32} {dv v0 c0 : Value} (E : RoadKit.Exa Z h x ST) (V : RoadKit.Fld Z h x ST "value" "[B" v0) (C : RoadKit.Fld Z h x ST "coder" "B" c0) (K : RoadKit.Arv Z h b k .char zn (cs.map Value.int) dv) (S : RoadKit.Sta Z h ST "COMPACT_STRINGS" "Z" (.int z)) (hz : ¬ z = 0)
    (hlen : zn.toNatClampNeg = cs.length) (h0 : 0 < cs.length) (hbig : cs.length ≤ 536870912) (hall : ∀ c ∈ cs, ¬ 255 < c) (hfr : 4 ≤ R.frames) (hlo : W + 65 ≤ R.locals) :
    Back l R p e below s args New1.yN len W (fun P a => a = #[.ref x, .ref b] ∧ P.U.heap = h ∧ P.cells + 1 ≤ R.cells ∧ P.slots + cs.length ≤ R.slots)
      (fun P _ v B => ∃ L, QA Z x zn cs h v B.U.heap L ∧ B.locs = P.locs ++ L ∧ B.cells = P.cells + 1 ∧ B.slots = P.slots + cs.length) := by
  obtain ⟨A, K1, K2, K3, K4, K5, K6⟩ := K
  have e : A.slots.size = cs.length := K3.trans hlen
  have hat : ∀ (i : Nat) (hi : i < cs.length), A.slots[i]? = some (.int cs[i]) := fun i hi => by rw [K5 i (by omega)]; simp [List.getD_eq_getElem?_getD, hi]
  have hcv : ∀ (i : Nat) (hi : i < cs.length), cv A i = cs[i] := fun i hi => by unfold cv; rw [hat i hi]
  have hty : Typed .char A := fun i v hv => by
    have hi : i < A.slots.size := (Array.getElem?_eq_some_iff.mp hv).1
    have q := K5 i hi
    rw [hv] at q
    rw [Option.some.inj q]
    exact K6 i hi
  refine Back.mono (back hZ hw wi E V C K1 hty S hz (by omega) (by omega) (fun i hi => by rw [hcv i (by omega)]; exact hall _ (List.getElem_mem _)) hfr hlo) (fun P a hp => ⟨hp.1, hp.2.1, hp.2.2.1, by rw [e]; exact hp.2.2.2⟩) (fun P a v B hp hq => ?_)
  obtain ⟨L, ⟨q1, q2, q3, q4, q5, q6, q7, ⟨V', v1, v2, v3, v4, v5⟩, q9⟩, hl, hc, hs⟩ := hq
  refine ⟨L, ⟨q1, q2, q3, q4, q5, q6, q7, ⟨V'.cls, v3, V', v1, rfl, by rw [v4, e, hlen], K4, fun i hi => ?_, fun i hi => ?_⟩, q9⟩, hl, hc, by rw [hs, e]⟩
  · have hi' : i < cs.length := by omega
    rw [v5 i (by omega), hcv i hi']; simp [List.getD_eq_getElem?_getD, hi']
  · have hi' : i < cs.length := by omega
    simp only [List.getD_eq_getElem?_getD, List.getElem?_map, List.getElem?_eq_getElem hi', Option.map_some, Option.getD_some]
    exact fits_lo8 _
end StrChars.Road
namespace StrChars.Road
open Jvm Sem ClassFile Op Lib Jvm.Stand Jvm.Free Jvm.Free.XT
/-- WHAT COMES BACK, in the writer's own shape -/
def QV (Z : State) (x : Addr) (N : Int32) (bs : List Int32) (h : Heap) (n0 : Nat) (v : Option Value) (h' : Heap) (L : List Loc) : Prop := v = none ∧ RoadKit.Fr n0 L ∧ RoadKit.Keep h h' [x] ∧ RoadKit.Exa Z h' x ST ∧ RoadKit.Fld Z h' x ST "coder" "B" (.int 0) ∧
  ∃ (t : Addr) (kb : ClassId), n0 ≤ t ∧ h.size ≤ t ∧ ¬ t = x ∧ RoadKit.Fld Z h' x ST "value" "[B" (.ref t) ∧ RoadKit.Arv Z h' t kb .byte N (bs.map Value.int) (.int 0)
/-- **new String(chars) AT A CALL, FOR THE WRITER**: a char[] of n known ints, each 0 to 255 -/
theorem backV {p : Program} {l : Launch} {e : Env} {R : Room} {s : State} {args : Array Value} {below : List Frame} {len W : Nat} {Z : State} {a0 : Array Value} {h : Heap} (hZ : Z.Warmed39 s.vm) (hw : ∀ d ∈ words, d.before a0 Z = true) {kI : Nat} (wi : (Jvm.Cond.instantiable ST kI).before a0 Z = true)
    {x b : Addr} {kC : ClassId} {cs bs : List Int32} {d v0 c0 : Value} {z N : Int32} {n n0 : Nat} (hx0 : n0 ≤ x) (hh0 : n0 ≤ h.size) (E : RoadKit.Exa Z h x ST) (V : RoadKit.Fld Z h x ST "value" "[B" v0) (C : RoadKit.Fld Z h x ST "coder" "B" c0) (K : RoadKit.Arv Z h b kC .char N (cs.map Value.int) d) (S : RoadKit.Sta Z h ST "COMPACT_STRINGS" "Z" (.int z)) (hz : ¬ z = 0)
    (hn : cs.length = n) (hN : N = Int32.ofNat n) (l0 : 0 < n) (l2 : n ≤ 4000) (hp : ∀ c ∈ cs, ¬ c < 0 ∧ ¬ (255 : Int32) < c) (hb : bs = cs.map (fun c => c.toInt8.toInt32)) (hfr : 4 ≤ R.frames) (hlo : W + 65 ≤ R.locals) :
    Back l R p e below s args (⟨"java/lang/String", "<init>", "([C)V"⟩ : MethodName) len W (fun P a => a = #[.ref x, .ref b] ∧ P.U.heap = h ∧ P.cells + 1 ≤ R.cells ∧ P.slots + n ≤ R.slots)
      (fun P _ v B => ∃ L, QV Z x N bs h n0 v B.U.heap L ∧ B.locs = P.locs ++ L ∧ B.cells = P.cells + 1 ∧ B.slots = P.slots + n) := by
  subst hn hN hb
  refine Back.mono (backArv hZ hw wi E V C K S hz (n32 (by omega)) l0 (by omega) (fun c hc => (hp c hc).2) hfr hlo) (fun P a hp => hp) (fun P a v B hp hq => ?_)
  obtain ⟨L, ⟨q1, q2, q3, q4, q5, q6, q7, ⟨kb, v1, v2⟩, q9⟩, hl, hc, hs⟩ := hq
  exact ⟨L, ⟨q1, fun y hy => by rw [q2 y hy]; exact hx0, q3, q5, q7, h.size, kb, hh0, Nat.le_refl _, Nat.ne_of_gt E.lt, q6, by rw [List.map_map]; exact v2⟩, hl, hc, hs⟩
end StrChars.Road
namespace StrChars
open Jvm Sem ClassFile Op Lib Jvm.Stand Jvm.Free.XT Jvm.Free.ALB Jvm.Free.JM Jvm.Free
open Jvm.Lib.Cold (StaticIs)
def hi8 (x : Int32) : Int32 := lo8 (x >>> ((8 : Int32) &&& 31))
/-- what StringUTF16.getChar makes of two bytes -/
def pairCh (u v : Int32) : Int32 := (((u &&& 255) <<< ((0 : Int32) &&& 31)) ||| ((v &&& 255) <<< ((8 : Int32) &&& 31))).toUInt32.toUInt16.toUInt32.toInt32
theorem shr0 (c : Int32) : c >>> ((0 : Int32) &&& 31) = c := by
  have e : ((0 : Int32) &&& 31) = 0 := by decide
  rw [e]
  apply Int32.toBitVec_inj.mp
  rw [Int32.toBitVec_shiftRight]
  have e1 : ((0 : Int32).toBitVec.smod 32) = 0#32 := by decide
  rw [e1, BitVec.sshiftRight_eq']
  exact BitVec.sshiftRight_zero
theorem lo8_and (x : Int32) : (lo8 x &&& 255).toBitVec.toNat = x.toBitVec.toNat % 256 := by
  have h : (lo8 x).toBitVec = (x.toBitVec.signExtend 8).signExtend 32 := by rw [lo8, Int8.toBitVec_toInt32, Int32.toBitVec_toInt8]
  rw [Int32.toBitVec_and, BitVec.toNat_and, h]
  have e : ((x.toBitVec.signExtend 8).signExtend 32).toNat % 256 = x.toBitVec.toNat % 256 := by
    rw [BitVec.toNat_signExtend]
    have hlt := x.toBitVec.isLt
    simp only [BitVec.toNat_setWidth, BitVec.toNat_signExtend]
    split <;> split <;> omega
  rw [← e]
  exact Nat.and_two_pow_sub_one_eq_mod _ 8
theorem pair_says {c : Int32} (h0 : ¬ c < 0) (h1 : ¬ 65535 < c) : pairCh (lo8 c) (hi8 c) = c := by
  rw [Int32.lt_iff_toInt_lt] at h0 h1
  have e0 : (0 : Int32).toInt = 0 := rfl
  have e1 : (65535 : Int32).toInt = 65535 := rfl
  have hc : c.toInt = c.toBitVec.toNat := by
    have := c.toBitVec.isLt
    have e : c.toInt = c.toBitVec.toInt := rfl
    rw [e] at h0 h1
    rw [e]
    rw [BitVec.toInt_eq_toNat_cond] at h0 h1 ⊢
    split at h0 <;> split <;> omega
  have hn : c.toBitVec.toNat < 65536 := by omega
  have a1 := lo8_and c
  have a2 : (hi8 c &&& 255).toBitVec.toNat = c.toBitVec.toNat / 256 := by
    rw [hi8, lo8_and]
    have e : ((8 : Int32) &&& 31) = 8 := by decide
    rw [e, Int32.toBitVec_shiftRight]
    have e2 : ((8 : Int32).toBitVec.smod 32) = 8#32 := by decide
    rw [e2, BitVec.sshiftRight_eq', BitVec.toNat_sshiftRight_of_msb_false (by rw [BitVec.msb_eq_false_iff_two_mul_lt]; omega)]
    show c.toBitVec.toNat >>> 8 % 256 = _
    rw [Nat.shiftRight_eq_div_pow]
    omega
  unfold pairCh
  apply Int32.toBitVec_inj.mp
  apply BitVec.eq_of_toNat_eq
  have f0 : ((0 : Int32) &&& 31) = 0 := by decide
  have f8 : ((8 : Int32) &&& 31) = 8 := by decide
  rw [f0, f8]
  have g : (((lo8 c &&& 255) <<< (0 : Int32)) ||| ((hi8 c &&& 255) <<< (8 : Int32))).toBitVec.toNat = c.toBitVec.toNat := by
    rw [Int32.toBitVec_or, Int32.toBitVec_shiftLeft, Int32.toBitVec_shiftLeft]
    have s0 : ((0 : Int32).toBitVec.smod 32) = 0#32 := by decide
    have s8 : ((8 : Int32).toBitVec.smod 32) = 8#32 := by decide
    rw [s0, s8, BitVec.toNat_or]
    simp only [BitVec.shiftLeft_eq', BitVec.toNat_shiftLeft, a1, a2]
    show (c.toBitVec.toNat % 256) <<< 0 % 2 ^ 32 ||| (c.toBitVec.toNat / 256) <<< 8 % 2 ^ 32 = _
    rw [Nat.shiftLeft_zero, Nat.mod_eq_of_lt (show c.toBitVec.toNat % 256 < 2 ^ 32 by omega), Nat.mod_eq_of_lt (show (c.toBitVec.toNat / 256) <<< 8 < 2 ^ 32 by rw [Nat.shiftLeft_eq]; omega), Nat.or_comm, ← Nat.shiftLeft_add_eq_or_of_lt (by omega), Nat.shiftLeft_eq]
    omega
  show BitVec.toNat (((((lo8 c &&& 255) <<< (0 : Int32)) ||| ((hi8 c &&& 255) <<< (8 : Int32))).toBitVec.setWidth 16).setWidth 32) = _
  rw [BitVec.toNat_setWidth, BitVec.toNat_setWidth, g]
  omega
end StrChars
namespace StrChars
open Jvm Sem ClassFile Op Lib Jvm.Stand Jvm.Free.XT Jvm.Free.ALB Jvm.Free.JM Jvm.Free
open Jvm.Lib.Cold (StaticIs)
theorem shr1 {n : Nat} (h : 2 * n < 2 ^ 31) : Int32.ofNat (2 * n) >>> ((1 : Int32) &&& 31) = Int32.ofNat n := by
  have e : ((1 : Int32) &&& 31) = 1 := by decide
  rw [e]
  apply Int32.toBitVec_inj.mp
  rw [Int32.toBitVec_shiftRight]
  have e1 : ((1 : Int32).toBitVec.smod 32) = 1#32 := by decide
  have hm : (BitVec.ofNat 32 (2 * n)).toNat = 2 * n := by rw [BitVec.toNat_ofNat, Nat.mod_eq_of_lt (by omega)]
  rw [e1, BitVec.sshiftRight_eq']
  apply BitVec.eq_of_toNat_eq
  show ((BitVec.ofNat 32 (2 * n)).sshiftRight 1).toNat = (BitVec.ofNat 32 n).toNat
  rw [BitVec.toNat_sshiftRight_of_msb_false (by rw [BitVec.msb_eq_false_iff_two_mul_lt, hm]; omega), hm, BitVec.toNat_ofNat, Nat.shiftRight_eq_div_pow]
  omega
/-- charAt's cast of a byte read back -/
def chr8 (u : Int32) : Int32 := (u &&& 255).toUInt32.toUInt16.toUInt32.toInt32
theorem chr8_lo8 {c : Int32} (h0 : ¬ c < 0) (h1 : ¬ 255 < c) : chr8 (lo8 c) = c := by
  have t : ∀ k : Fin 256, (Int32.ofNat k.val).toUInt32.toUInt16.toUInt32.toInt32 = Int32.ofNat k.val := by decide +kernel
  unfold chr8
  rw [lo8_mask h0 h1]
  rw [Int32.lt_iff_toInt_lt] at h0 h1
  have e0 : (0 : Int32).toInt = 0 := rfl
  have e1 : (255 : Int32).toInt = 255 := rfl
  obtain ⟨k, hk⟩ : ∃ k : Nat, c.toInt = k := ⟨c.toInt.toNat, by omega⟩
  have hx : c = Int32.ofNat k := Int32.toInt_inj.mp (by rw [hk, Int32.toInt_ofNat_small (by omega)])
  rw [hx]
  exact t ⟨k, by omega⟩
theorem narrow_ch {c : Int32} (h0 : ¬ c < 0) (h1 : ¬ 65535 < c) : narrow .char (.int c) = .int c := by
  have q : narrow .char (.int (pairCh (lo8 c) (hi8 c))) = .int (pairCh (lo8 c) (hi8 c)) := narrow_c _
  rwa [pair_says h0 h1] at q
/-- the array's cell V codes the n chars f 0 .. f (n - 1) by the coder cd, as the JDK does: coder 1 just where some char is above 255 -/
def Cod (cd : Int32) (n : Nat) (f : Nat → Int32) (V : Cell) : Prop := (cd = 0 ∧ V.slots.size = n ∧ ∀ j, j < n → V.slots[j]? = some (.int (lo8 (f j))) ∧ ¬ 255 < f j) ∨ (cd = 1 ∧ V.slots.size = 2 * n ∧ (∀ j, j < n → V.slots[2 * j]? = some (.int (lo8 (f j))) ∧ V.slots[2 * j + 1]? = some (.int (hi8 (f j)))) ∧ ∃ j, j < n ∧ 255 < f j)
theorem Cod.cd {cd : Int32} {n : Nat} {f : Nat → Int32} {V : Cell} (h : Cod cd n f V) : cd = 0 ∨ cd = 1 := h.imp (fun q => q.1) fun q => q.1
theorem Cod.len {cd : Int32} {n : Nat} {f : Nat → Int32} {V : Cell} (h : Cod cd n f V) (hs : V.slots.size < 2 ^ 31) : Int32.ofNat V.slots.size >>> (cd &&& 31) = Int32.ofNat n := by
  rcases h with ⟨rfl, h, -⟩ | ⟨rfl, h, -⟩
  · rw [shr0, h]
  · rw [h, shr1 (by omega)]
/-- **x is a String of the n chars f 0 .. f (n - 1)**, Latin-1 or UTF-16; its array at t has the cell V -/
def Txt (x t : Addr) (V : Cell) (cd : Int32) (n : Nat) (f : Nat → Int32) (U : State) : Prop := Exact "java/lang/String" x U ∧ Has x "java/lang/String" "value" "[B" (.ref t) U ∧ Has x "java/lang/String" "coder" "B" (.int cd) U ∧ XT.Arr .byte t V U ∧ Cod cd n f V ∧ ∀ j, j < n → ¬ f j < 0 ∧ ¬ 65535 < f j
theorem Txt.mv {x t : Addr} {V : Cell} {cd : Int32} {n : Nat} {f : Nat → Int32} {U U' : State} (h : Txt x t V cd n f U) (hal : U.vm.Alike U'.vm) (hh : U'.heap = U.heap) : Txt x t V cd n f U' := ⟨h.1.mv hal hh, h.2.1.mv hal hh, h.2.2.1.mv hal hh, h.2.2.2.1.mv hal hh, h.2.2.2.2⟩
namespace Cdr
def yN : MethodName := ⟨"java/lang/String", "coder", "()B"⟩
abbrev yB : ByteArray := jdk_42_method_152_code
theorem d0 : decode yB 0 = .ok (.getstatic 38, 3) := by decide +kernel
theorem d3 : decode yB 3 = .ok (.ifCond (.eq) 10, 3) := by decide +kernel
theorem d6 : decode yB 6 = .ok (.aload_n 0, 1) := by decide +kernel
theorem d7 : decode yB 7 = .ok (.getfield 15, 3) := by decide +kernel
theorem d10 : decode yB 10 = .ok (.goto 4, 3) := by decide +kernel
theorem d14 : decode yB 14 = .ok (.ireturn, 1) := by decide +kernel
def site : List Cond := [.fieldLink "java/lang/String" 38 "java/lang/String" "COMPACT_STRINGS" "Z", .fieldLink "java/lang/String" 15 "java/lang/String" "coder" "B"]
def tab : Cond := tabOf yN yB 1 (some .byte) site
def P (x : Addr) (cd z : Int32) (args : Array Value) (s : State) : Prop := args = #[.ref x] ∧ Has x "java/lang/String" "coder" "B" (.int cd) s ∧ (cd = 0 ∨ cd = 1) ∧ StaticIs s "java/lang/String" "COMPACT_STRINGS" "Z" (.int z) ∧ ¬ z = 0
def E (cd : Int32) (r : Option Value) (s u : State) : Prop := XT.PureE (some (.int cd)) r s u
theorem law (l : Launch) (x : Addr) (cd z : Int32) : Law l yN 1 0 0 0 yB 1 (some .byte) site (P x cd z) (E cd) [] 0 0 := by
  refine Law.of_walk (plainFor_of_name (by decide +kernel)) (by decide +kernel) (by decide +kernel) (by decide) (fun _ _ h => by rw [h.1]; rfl) (fun _ U U' hal hh h => ⟨h.1, h.2.1.mv hal hh, h.2.2.1, h.2.2.2.1.there hal hh, h.2.2.2.2⟩) (fun r U U' V V' h1 hal h2 h => XT.PureE.mv r U U' V V' h1 hal h2 h) ?_
  intro p e s m args below meth c s₁ X0 hexec hbytes hml hret hlk hnm hown hh0 W hP
  obtain ⟨rfl, hx, hc, s1, hz⟩ := hP
  have c1 : Steps p.tables e below (s₁.setTop (entryFrame m #[.ref x] 1)) (s₁.setTop (mkF m 0 #[.val (.ref x)] [])) := entry rfl
  obtain ⟨T2, X2, q2, st2⟩ := X0.sget hexec hown (wk W (.fieldLink "java/lang/String" 38 "java/lang/String" "COMPACT_STRINGS" "Z")) s1 (fun _ _ h => by rw [hh0]; exact h) (g := (mkF m 0 #[.val (.ref x)] [])) rfl (hb hbytes d0)
  have hh2 := q2.trans hh0
  have c3 : Steps p.tables e below (s₁.setTop (entryFrame m #[.ref x] 1)) (T2.setTop (mkF m 7 #[.val (.ref x)] [.ref x])) := (c1.trans (st2 _ (Steps.refl _))).trans (by
    refine XS.ifNo X2.here hexec rfl (hb hbytes d3) rfl (i0_eq_f hz) ?_
    refine XS.aloadN X2.here hexec rfl (hb hbytes d6) rfl rfl ?_
    exact Steps.refl _)
  obtain ⟨T4, X4, q4, st4⟩ := X2.hget hexec hown (wk W (.fieldLink "java/lang/String" 15 "java/lang/String" "coder" "B")) (hx.mv X2.warmed.alike hh2) (g := (mkF m 7 #[.val (.ref x)] [.ref x])) rfl (rest := []) rfl (hb hbytes d7)
  have c5 : Steps p.tables e below (s₁.setTop (entryFrame m #[.ref x] 1)) (T4.setTop (mkF m 14 #[.val (.ref x)] [.int cd])) := (c3.trans (st4 _ (Steps.refl _))).trans (by
    refine XS.goto X4.here hexec rfl (pc0 := 10) rfl (hb hbytes d10) (by decide) rfl ?_
    exact Steps.refl _)
  exact ⟨T4, some (.int cd), _, _, _, X4, rfl, rfl, rfl, (fun h => by cases h), ⟨rfl, q4.trans hh2⟩, fun fs hl => c5.trans (X4.ireturnOut hexec hret (by rcases hc with rfl | rfl <;> rfl) (Or.inr (Or.inr (Or.inl rfl))) (hb hbytes d14) hl)⟩
end Cdr
namespace Len
def yN : MethodName := ⟨"java/lang/String", "length", "()I"⟩
abbrev yB : ByteArray := jdk_42_method_54_code
theorem d0 : decode yB 0 = .ok (.aload_n 0, 1) := by decide +kernel
theorem d1 : decode yB 1 = .ok (.getfield 9, 3) := by decide +kernel
theorem d4 : decode yB 4 = .ok (.arraylength, 1) := by decide +kernel
theorem d5 : decode yB 5 = .ok (.aload_n 0, 1) := by decide +kernel
theorem d6 : decode yB 6 = .ok (.invokevirtual 335, 3) := by decide +kernel
theorem d9 : decode yB 9 = .ok (.ishr, 1) := by decide +kernel
theorem d10 : decode yB 10 = .ok (.ireturn, 1) := by decide +kernel
def site : List Cond := [.fieldLink "java/lang/String" 9 "java/lang/String" "value" "[B", Cdr.tab] ++ virtW "java/lang/String" 335 "java/lang/String" Cdr.yN Cdr.yN
def tab : Cond := tabOf yN yB 1 (some .int) site
def P (x t : Addr) (V : Cell) (cd : Int32) (n : Nat) (f : Nat → Int32) (z : Int32) (args : Array Value) (s : State) : Prop := args = #[.ref x] ∧ Txt x t V cd n f s ∧ StaticIs s "java/lang/String" "COMPACT_STRINGS" "Z" (.int z) ∧ ¬ z = 0
def E (n : Nat) (r : Option Value) (s u : State) : Prop := XT.PureE (some (.int (Int32.ofNat n))) r s u
/-- length() of a String of n chars, in either coding -/
theorem law (l : Launch) (x t : Addr) (V : Cell) (cd : Int32) (n : Nat) (f : Nat → Int32) (z : Int32) : Law l yN 1 0 1 13 yB 1 (some .int) site (P x t V cd n f z) (E n) [] 0 0 := by
  refine Law.of_walk (plainFor_of_name (by decide +kernel)) (by decide +kernel) (by decide +kernel) (by decide) (fun _ _ h => by rw [h.1]; rfl) (fun _ U U' hal hh h => ⟨h.1, h.2.1.mv hal hh, h.2.2.1.there hal hh, h.2.2.2⟩) (fun r U U' V V' h1 hal h2 h => XT.PureE.mv r U U' V V' h1 hal h2 h) ?_
  intro p e s m args below meth c s₁ X0 hexec hbytes hml hret hlk hnm hown hh0 W hP
  obtain ⟨rfl, hx, s1, hz⟩ := hP
  have v31 := hx.2.2.2.1.2.2.2
  have c1 : Steps p.tables e below (s₁.setTop (entryFrame m #[.ref x] 1)) (s₁.setTop (mkF m 1 #[.val (.ref x)] [.ref x])) := Steps.trans (entry rfl) (by
    show Steps p.tables e below (s₁.setTop (mkF m 0 #[.val (.ref x)] [])) _
    refine XS.aloadN X0.here hexec rfl (hb hbytes d0) rfl rfl ?_
    exact Steps.refl _)
  obtain ⟨T2, X2, q2, st2⟩ := X0.hget hexec hown (wk W (.fieldLink "java/lang/String" 9 "java/lang/String" "value" "[B")) (hx.mv X0.warmed.alike hh0).2.1 (g := (mkF m 1 #[.val (.ref x)] [.ref x])) rfl (rest := []) rfl (hb hbytes d1)
  have hh2 := q2.trans hh0
  have hx2 := hx.mv X2.warmed.alike hh2
  have c3 : Steps p.tables e below (s₁.setTop (entryFrame m #[.ref x] 1)) (T2.setTop (mkF m 6 #[.val (.ref x)] [.ref x, .int (Int32.ofNat V.slots.size)])) := (c1.trans (st2 _ (Steps.refl _))).trans (by
    refine X2.alen hexec hx2.2.2.2.1 rfl rfl (hb hbytes d4) ?_
    refine XS.aloadN X2.here hexec rfl (hb hbytes d5) rfl rfl ?_
    exact Steps.refl _)
  obtain ⟨v4, T4, X4, E4, g4⟩ := X2.callV hexec (Cdr.law l x cd z) hown (wks W (virtW "java/lang/String" 335 "java/lang/String" Cdr.yN Cdr.yN)) rfl (by decide) (wk W Cdr.tab) (W := 1) (Nat.le_of_ble_eq_true rfl) (Nat.le_of_ble_eq_true rfl) (Nat.le_refl _) (Nat.le_refl _) (hx2.1.fc X2.warmed.alike) hx2.1.is (g := (mkF m 6 #[.val (.ref x)] [.ref x, .int (Int32.ofNat V.slots.size)])) rfl (by rw [hml]; rfl) c3 (argsL := []) (rest := [.int (Int32.ofNat V.slots.size)]) rfl rfl (by show 2 * 0 + (1 + 0) ≤ _; decide) (hb hbytes d6) (⟨rfl, hx2.2.2.1, hx.2.2.2.2.1.cd, s1.there X2.warmed.alike hh2, hz⟩)
  obtain ⟨rfl, q4⟩ := E4
  have c5 : Steps p.tables e below (s₁.setTop (entryFrame m #[.ref x] 1)) (T4.setTop (mkF m 10 #[.val (.ref x)] [.int (Int32.ofNat V.slots.size >>> (cd &&& 31))])) := Steps.trans g4 (by
    refine ishr X4.here hexec rfl (hb hbytes d9) rfl ?_
    exact Steps.refl _)
  rw [hx.2.2.2.2.1.len v31] at c5
  exact ⟨T4, some (.int (Int32.ofNat n)), _, _, _, X4, rfl, rfl, rfl, (fun h => by cases h), ⟨rfl, q4.trans hh2⟩, fun fs hl => c5.trans (X4.ireturnOut hexec hret rfl (Or.inl rfl) (hb hbytes d10) hl)⟩
theorem pays {l : Launch} {R : Room} {p : Program} {e : Env} {below : List Frame} {s : State} {sargs : Array Value} {len W : Nat} (x t : Addr) (V : Cell) (cd : Int32) (n : Nat) (f : Nat → Int32) (z : Int32) (htab : tab.before sargs s = true) (hfr : 2 ≤ R.frames) (hlo : W + 25 ≤ R.locals) :
    Back l R p e below s sargs yN len W (fun A₁ a₁ => A₁.cells + 0 ≤ R.cells ∧ A₁.slots + 0 ≤ R.slots ∧ P x t V cd n f z a₁ A₁.U) (fun A₁ _ v₁ B₁ => E n v₁ A₁.U B₁.U ∧ B₁.locs = A₁.locs ++ [] ∧ B₁.cells = A₁.cells + 0 ∧ B₁.slots = A₁.slots + 0) :=
  (law l x t V cd n f z).pays htab hfr (by omega)
end Len
namespace IsL
def yN : MethodName := ⟨"java/lang/String", "isLatin1", "()Z"⟩
abbrev yB : ByteArray := jdk_42_method_154_code
theorem d0 : decode yB 0 = .ok (.getstatic 38, 3) := by decide +kernel
theorem d3 : decode yB 3 = .ok (.ifCond (.eq) 14, 3) := by decide +kernel
theorem d6 : decode yB 6 = .ok (.aload_n 0, 1) := by decide +kernel
theorem d7 : decode yB 7 = .ok (.getfield 15, 3) := by decide +kernel
theorem d10 : decode yB 10 = .ok (.ifCond (.ne) 7, 3) := by decide +kernel
theorem d13 : decode yB 13 = .ok (.iconst 1, 1) := by decide +kernel
theorem d14 : decode yB 14 = .ok (.goto 4, 3) := by decide +kernel
theorem d17 : decode yB 17 = .ok (.iconst 0, 1) := by decide +kernel
theorem d18 : decode yB 18 = .ok (.ireturn, 1) := by decide +kernel
def site : List Cond := [.fieldLink "java/lang/String" 38 "java/lang/String" "COMPACT_STRINGS" "Z", .fieldLink "java/lang/String" 15 "java/lang/String" "coder" "B"]
def tab : Cond := tabOf yN yB 1 (some .boolean) site
def P (x : Addr) (cd z : Int32) (args : Array Value) (s : State) : Prop := args = #[.ref x] ∧ Has x "java/lang/String" "coder" "B" (.int cd) s ∧ (cd = 0 ∨ cd = 1) ∧ StaticIs s "java/lang/String" "COMPACT_STRINGS" "Z" (.int z) ∧ ¬ z = 0
def E (cd : Int32) (r : Option Value) (s u : State) : Prop := XT.PureE (some (.int (1 - cd))) r s u
theorem law (l : Launch) (x : Addr) (cd z : Int32) : Law l yN 1 0 0 0 yB 1 (some .boolean) site (P x cd z) (E cd) [] 0 0 := by
  refine Law.of_walk (plainFor_of_name (by decide +kernel)) (by decide +kernel) (by decide +kernel) (by decide) (fun _ _ h => by rw [h.1]; rfl) (fun _ U U' hal hh h => ⟨h.1, h.2.1.mv hal hh, h.2.2.1, h.2.2.2.1.there hal hh, h.2.2.2.2⟩) (fun r U U' V V' h1 hal h2 h => XT.PureE.mv r U U' V V' h1 hal h2 h) ?_
  intro p e s m args below meth c s₁ X0 hexec hbytes hml hret hlk hnm hown hh0 W hP
  obtain ⟨rfl, hx, hc, s1, hz⟩ := hP
  have c1 : Steps p.tables e below (s₁.setTop (entryFrame m #[.ref x] 1)) (s₁.setTop (mkF m 0 #[.val (.ref x)] [])) := entry rfl
  obtain ⟨T2, X2, q2, st2⟩ := X0.sget hexec hown (wk W (.fieldLink "java/lang/String" 38 "java/lang/String" "COMPACT_STRINGS" "Z")) s1 (fun _ _ h => by rw [hh0]; exact h) (g := (mkF m 0 #[.val (.ref x)] [])) rfl (hb hbytes d0)
  have hh2 := q2.trans hh0
  have c3 : Steps p.tables e below (s₁.setTop (entryFrame m #[.ref x] 1)) (T2.setTop (mkF m 7 #[.val (.ref x)] [.ref x])) := (c1.trans (st2 _ (Steps.refl _))).trans (by
    refine XS.ifNo X2.here hexec rfl (hb hbytes d3) rfl (i0_eq_f hz) ?_
    refine XS.aloadN X2.here hexec rfl (hb hbytes d6) rfl rfl ?_
    exact Steps.refl _)
  obtain ⟨T4, X4, q4, st4⟩ := X2.hget hexec hown (wk W (.fieldLink "java/lang/String" 15 "java/lang/String" "coder" "B")) (hx.mv X2.warmed.alike hh2) (g := (mkF m 7 #[.val (.ref x)] [.ref x])) rfl (rest := []) rfl (hb hbytes d7)
  have c5 : Steps p.tables e below (s₁.setTop (entryFrame m #[.ref x] 1)) (T4.setTop (mkF m 10 #[.val (.ref x)] [.int cd])) := c3.trans (st4 _ (Steps.refl _))
  have c6 : Steps p.tables e below (s₁.setTop (entryFrame m #[.ref x] 1)) (T4.setTop (mkF m 18 #[.val (.ref x)] [.int (1 - cd)])) := by
    rcases hc with rfl | rfl
    · exact c5.trans (by
        refine XS.ifNo X4.here hexec rfl (hb hbytes d10) rfl (i0_ne_f rfl) ?_
        refine iconstV X4.here hexec rfl 1 (hb hbytes d13) (by decide) ?_
        refine XS.goto X4.here hexec rfl (pc0 := 14) rfl (hb hbytes d14) (by decide) rfl ?_
        exact Steps.refl _)
    · exact c5.trans (by
        refine XS.ifYes X4.here hexec rfl (pc0 := 10) rfl (hb hbytes d10) rfl (i0_ne_t (by decide)) (by decide) rfl ?_
        refine iconstV X4.here hexec rfl 0 (hb hbytes d17) (by decide) ?_
        exact Steps.refl _)
  exact ⟨T4, some (.int (1 - cd)), _, _, _, X4, rfl, rfl, rfl, (fun h => by cases h), ⟨rfl, q4.trans hh2⟩, fun fs hl => c6.trans (X4.ireturnOut hexec hret (by rcases hc with rfl | rfl <;> rfl) (Or.inr (Or.inl rfl)) (hb hbytes d18) hl)⟩
end IsL
namespace LChA
def yN : MethodName := ⟨"java/lang/StringLatin1", "charAt", "([BI)C"⟩
abbrev yB : ByteArray := jdk_43_method_2_code
theorem d0 : decode yB 0 = .ok (.iload_n 1, 1) := by decide +kernel
theorem d1 : decode yB 1 = .ok (.aload_n 0, 1) := by decide +kernel
theorem d2 : decode yB 2 = .ok (.arraylength, 1) := by decide +kernel
theorem d3 : decode yB 3 = .ok (.invokestatic 9, 3) := by decide +kernel
theorem d6 : decode yB 6 = .ok (.aload_n 0, 1) := by decide +kernel
theorem d7 : decode yB 7 = .ok (.iload_n 1, 1) := by decide +kernel
theorem d8 : decode yB 8 = .ok (.baload, 1) := by decide +kernel
theorem d9 : decode yB 9 = .ok (.sipush 255, 3) := by decide +kernel
theorem d12 : decode yB 12 = .ok (.iand, 1) := by decide +kernel
theorem d13 : decode yB 13 = .ok (.i2c, 1) := by decide +kernel
theorem d14 : decode yB 14 = .ok (.ireturn, 1) := by decide +kernel
def site : List Cond := [JO.Str_checkIndex.tab] ++ staticW "java/lang/StringLatin1" 9 JO.Str_checkIndex.yN
def tab : Cond := tabOf yN yB 2 (some .char) site
def P (t : Addr) (V : Cell) (i : Nat) (u : Int32) (fm : Value) (args : Array Value) (s : State) : Prop := args = #[.ref t, .int (Int32.ofNat i)] ∧ XT.Arr .byte t V s ∧ V.slots[i]? = some (.int u) ∧ (StaticIs s "jdk/internal/util/Preconditions" "SIOOBE_FORMATTER" "Ljava/util/function/BiFunction;" fm ∧ fm.isRef = true)
def E (u : Int32) (r : Option Value) (s w : State) : Prop := XT.PureE (some (.int (chr8 u))) r s w
theorem law (l : Launch) (t : Addr) (V : Cell) (i : Nat) (u : Int32) (fm : Value) : Law l yN 2 2 2 27 yB 2 (some .char) site (P t V i u fm) (E u) [] 0 0 := by
  refine Law.of_walk (plainFor_of_name (by decide +kernel)) (by decide +kernel) (by decide +kernel) (by decide) (fun _ _ h => by rw [h.1]; rfl) (fun _ U U' hal hh h => ⟨h.1, h.2.1.mv hal hh, h.2.2.1, h.2.2.2.1.there hal hh, h.2.2.2.2⟩) (fun r U U' V V' h1 hal h2 h => XT.PureE.mv r U U' V V' h1 hal h2 h) ?_
  intro p e s m args below meth c s₁ X0 hexec hbytes hml hret hlk hnm hown hh0 W hP
  obtain ⟨rfl, hV, hu, s1, rf⟩ := hP
  have v31 := hV.2.2.2
  have hi : i < V.slots.size := (Array.getElem?_eq_some_iff.mp hu).1
  have c1 : Steps p.tables e below (s₁.setTop (entryFrame m #[.ref t, .int (Int32.ofNat i)] 2)) (s₁.setTop (mkF m 0 #[.val (.ref t), .val (.int (Int32.ofNat i))] [])) := entry rfl
  have c2 : Steps p.tables e below (s₁.setTop (entryFrame m #[.ref t, .int (Int32.ofNat i)] 2)) (s₁.setTop (mkF m 3 #[.val (.ref t), .val (.int (Int32.ofNat i))] [.int (Int32.ofNat V.slots.size), .int (Int32.ofNat i)])) := c1.trans (by
    refine XS.iloadN X0.here hexec rfl (hb hbytes d0) rfl ?_
    refine XS.aloadN X0.here hexec rfl (hb hbytes d1) rfl rfl ?_
    refine X0.alen hexec (hV.mv X0.warmed.alike hh0) rfl rfl (hb hbytes d2) ?_
    exact Steps.refl _)
  obtain ⟨v3, T3, X3, E3, g3⟩ := X0.callS hexec (JO.Str_checkIndex.law l (Int32.ofNat i) (Int32.ofNat V.slots.size) fm) hown (wks W (staticW "java/lang/StringLatin1" 9 JO.Str_checkIndex.yN)) (wk W JO.Str_checkIndex.tab) (W := 0) (Nat.le_of_ble_eq_true rfl) (Nat.le_of_ble_eq_true rfl) (Nat.le_refl _) (Nat.le_refl _) (g := (mkF m 3 #[.val (.ref t), .val (.int (Int32.ofNat i))] [.int (Int32.ofNat V.slots.size), .int (Int32.ofNat i)])) rfl (by rw [hml]; rfl) c2 (argsL := [.int (Int32.ofNat i), .int (Int32.ofNat V.slots.size)]) (rest := []) rfl rfl (by show 2 * 0 + 0 ≤ _; decide) (hb hbytes d3) (⟨rfl, rf, s1.there X0.warmed.alike hh0, Int32.ofNat_not_neg (by omega), lt32 v31 hi⟩)
  obtain ⟨rfl, q3⟩ := E3
  have hh3 := q3.trans hh0
  have c4 : Steps p.tables e below (s₁.setTop (entryFrame m #[.ref t, .int (Int32.ofNat i)] 2)) (T3.setTop (mkF m 14 #[.val (.ref t), .val (.int (Int32.ofNat i))] [.int (chr8 u)])) := Steps.trans g3 (by
    refine XS.aloadN X3.here hexec rfl (hb hbytes d6) rfl rfl ?_
    refine XS.iloadN X3.here hexec rfl (hb hbytes d7) rfl ?_
    refine X3.aget hexec (hV.mv X3.warmed.alike hh3) rfl hu rfl rfl (hb hbytes d8) ?_
    refine sipushV X3.here hexec rfl 255 (hb hbytes d9) (by decide) ?_
    refine XS.iand X3.here hexec rfl (hb hbytes d12) rfl ?_
    refine i2c X3.here hexec rfl (hb hbytes d13) rfl ?_
    exact Steps.refl _)
  exact ⟨T3, some (.int (chr8 u)), _, _, _, X3, rfl, rfl, rfl, (fun h => by cases h), ⟨rfl, hh3⟩, fun fs hl => c4.trans (X3.ireturnOut hexec hret (narrow_c _) (Or.inr (Or.inr (Or.inr (Or.inl rfl)))) (hb hbytes d14) hl)⟩
end LChA
end StrChars
namespace StrChars.Road
open Jvm Sem ClassFile Op Lib Jvm.Stand Jvm.Free Jvm.Free.XT
open Jvm.Lib.Cold (StaticIs)
theorem consq {a : Array Value} {s : State} {c : Jvm.Cond} {L : List Jvm.Cond} (h0 : c.before a s = true) (h : ∀ w ∈ L, w.before a s = true) : ∀ w ∈ c :: L, w.before a s = true := fun w hw => (List.mem_cons.mp hw).elim (fun e => e ▸ h0) (h w)
/-- the words of String.length(), either coding -/
abbrev wordsLen : List Jvm.Cond := [.code Len.yN Len.yB 1 (some .int), .initialized ST, .fieldLink ST 9 ST "value" "[B", .fieldLink ST 38 ST "COMPACT_STRINGS" "Z", .fieldLink ST 15 ST "coder" "B", .code Cdr.yN Cdr.yB 1 (some .byte), .methodLink ST 335 Cdr.yN, .declares Cdr.yN, .selects ST Cdr.yN Cdr.yN, .instanceMethod Cdr.yN]
theorem tabLen_of {a : Array Value} {s : State} (h : ∀ w ∈ wordsLen, w.before a s = true) : Len.tab.before a s = true := by
  have hc : Cdr.tab.before a s = true := unparts (wk h (.code Cdr.yN Cdr.yB 1 (some .byte))) (wks h (.initialized Cdr.yN.cls :: Cdr.site))
  have q := consq hc h
  exact unparts (wk q (.code Len.yN Len.yB 1 (some .int))) (wks q (.initialized Len.yN.cls :: Len.site))
theorem movedLen {Z s : State} {a0 args : Array Value} (hZ : Z.Warmed39 s.vm) (hw : ∀ d ∈ wordsLen, d.before a0 Z = true) : ∀ d ∈ wordsLen, d.before args s = true := fun d hd => by
  have q := hw d hd
  have t : ∀ d ∈ wordsLen, d = .arrayClass .byte ∨ (d.onTables && d.keepsFace) = true := by decide +kernel
  rcases t d hd with rfl | t
  · exact RoadKit.mvA hZ q
  · exact RoadKit.mv hZ q t
/-- the bytes of the chars cs, low before high -/
def wideBytes : List Int32 → List Value
  | [] => []
  | c :: cs => .int (lo8 c) :: .int (hi8 c) :: wideBytes cs
theorem wide_lo (d : Value) : ∀ (cs : List Int32) (j : Nat), j < cs.length → (wideBytes cs).getD (2 * j) d = .int (lo8 (cs.getD j 0))
  | [], j, h => absurd h (Nat.not_lt_zero j)
  | c :: cs, 0, _ => rfl
  | c :: cs, j + 1, h => by
    have q := wide_lo d cs j (by simpa using h)
    rw [show 2 * (j + 1) = 2 * j + 1 + 1 from by omega]
    simpa [wideBytes] using q
theorem wide_hi (d : Value) : ∀ (cs : List Int32) (j : Nat), j < cs.length → (wideBytes cs).getD (2 * j + 1) d = .int (hi8 (cs.getD j 0))
  | [], j, h => absurd h (Nat.not_lt_zero j)
  | c :: cs, 0, _ => rfl
  | c :: cs, j + 1, h => by
    have q := wide_hi d cs j (by simpa using h)
    rw [show 2 * (j + 1) + 1 = 2 * j + 1 + 1 + 1 from by omega]
    simpa [wideBytes] using q
theorem low_at (d : Value) (cs : List Int32) (j : Nat) (h : j < cs.length) : (cs.map fun c => Value.int (lo8 c)).getD j d = .int (lo8 (cs.getD j 0)) := by
  simp [List.getD_eq_getElem?_getD, h]
/-- an array of N2 bytes vs codes the chars cs by the coder cd -/
def CodA (cs : List Int32) (cd N2 : Int32) (vs : List Value) : Prop := (cd = 0 ∧ N2 = Int32.ofNat cs.length ∧ vs = (cs.map fun c => Value.int (lo8 c)) ∧ ∀ c ∈ cs, ¬ 255 < c) ∨ (cd = 1 ∧ N2 = Int32.ofNat (2 * cs.length) ∧ vs = wideBytes cs ∧ ∃ c ∈ cs, 255 < c)
theorem CodA.cod {cs : List Int32} {cd N2 : Int32} {vs : List Value} {V : Cell} (h : CodA cs cd N2 vs) (hn : 2 * cs.length < 2 ^ 31) (hs : V.slots.size = N2.toNatClampNeg) (hv : RoadKit.Has V vs (.int 0)) : Cod cd cs.length (fun j => cs.getD j 0) V := by
  rcases h with ⟨rfl, rfl, rfl, h⟩ | ⟨rfl, rfl, rfl, c, hc, hw⟩
  · rw [n32 (by omega)] at hs
    exact Or.inl ⟨rfl, hs, fun j hj => ⟨by rw [hv j (by omega), low_at _ _ _ hj], by
      have e : cs.getD j 0 = cs[j] := by simp [List.getD_eq_getElem?_getD, hj]
      show ¬ 255 < cs.getD j 0
      rw [e]; exact h _ (List.getElem_mem _)⟩⟩
  · rw [n32 (by omega)] at hs
    obtain ⟨j, hj, rfl⟩ := List.getElem_of_mem hc
    exact Or.inr ⟨rfl, hs, fun j hj => ⟨by rw [hv _ (by omega), wide_lo _ _ _ hj], by rw [hv _ (by omega), wide_hi _ _ _ hj]⟩, j, hj, by
      have e : cs.getD j 0 = cs[j] := by simp [List.getD_eq_getElem?_getD, hj]
      show 255 < cs.getD j 0
      rw [e]; exact hw⟩
/-- an object of exactly java/lang/String, its two fields found: as the laws ask it -/
theorem strObj {Z U : State} {a0 : Array Value} {kI : Nat} (wi : (Jvm.Cond.instantiable ST kI).before a0 Z = true) (al : Z.vm.Alike U.vm) {x : Addr} {v0 c0 : Value} (E : RoadKit.Exa Z U.heap x ST) (V : RoadKit.Fld Z U.heap x ST "value" "[B" v0) (C : RoadKit.Fld Z U.heap x ST "coder" "B" c0) :
    ∃ (D : Cell) (fV fC : Field), Blank ST x D U ∧ Found ST "value" "[B" fV U ∧ Found ST "coder" "B" fC U ∧ D.slots[fV.slot]? = some v0 ∧ D.slots[fC.slot]? = some c0 ∧ RoadKit.slotOf Z ST "value" "[B" = fV.slot ∧ RoadKit.slotOf Z ST "coder" "B" = fC.slot := by
  obtain ⟨D, cfV, kV, iV, fV, hD, gV, stV, knV, obV, asV, slV⟩ := V
  obtain ⟨D', cfC, kC, iC, fC, hD', gC, stC, -, -, asC, slC⟩ := C
  cases hD.symm.trans hD'
  obtain ⟨D2, kD, e1, e2, e3, e4, e5⟩ := E
  cases hD.symm.trans e1
  obtain ⟨c2, k2, i1, i2, i3, -⟩ := Cond.instantiable_spec wi
  cases e2.symm.trans i1
  cases e3.symm.trans i2
  obtain ⟨kU, u1, u2⟩ := al.2.2 _ _ e3
  exact ⟨D, fV, fC, ⟨hD, ⟨knV, fun q hq => by rw [hq] at obV; cases obV⟩, by rw [al.findClass]; exact e2, kU, u1, by rw [u2]; exact i3, by rw [u2]; exact e5 i3⟩, ⟨SBG.found_only al ⟨cfV, kV, iV, gV⟩, stV⟩, ⟨SBG.found_only al ⟨cfC, kC, iC, gC⟩, stC⟩, slV, slC, by simp [RoadKit.slotOf, gV], by simp [RoadKit.slotOf, gC]⟩
theorem sta_is {Z U : State} (al : Z.vm.Alike U.vm) {C n d : String} {v : Value} (S : RoadKit.Sta Z U.heap C n d v) : StaticIs U C n d v := by
  obtain ⟨cfS, iS, kS, fS, st, cS, t1, t2, t3, t4, t5, t6, t7⟩ := S
  exact StaticIs.there (s := { Z with heap := U.heap }) ⟨cfS, iS, kS, fS, st, cS, t1, t2, t3, t4, t5, (fun q => by rw [q] at t6; cases t6), t7⟩ al rfl
/-- **length() OF SUCH A STRING** -/
theorem lenW {p : Program} {l : Launch} {e : Env} {R : Room} {s : State} {args : Array Value} {below : List Frame} {len W : Nat} {Z : State} {a0 : Array Value} {h : Heap} (hZ : Z.Warmed39 s.vm) (hw : ∀ d ∈ wordsLen, d.before a0 Z = true) {kI : Nat} (wi : (Jvm.Cond.instantiable ST kI).before a0 Z = true)
    {x t : Addr} {kb : ClassId} {cs : List Int32} {cd N2 z : Int32} {vs : List Value} (E : RoadKit.Exa Z h x ST) (V : RoadKit.Fld Z h x ST "value" "[B" (.ref t)) (C : RoadKit.Fld Z h x ST "coder" "B" (.int cd)) (K : RoadKit.Arv Z h t kb .byte N2 vs (.int 0)) (hc : CodA cs cd N2 vs) (hb : ∀ c ∈ cs, ¬ c < 0 ∧ ¬ (65535 : Int32) < c)
    (S : RoadKit.Sta Z h ST "COMPACT_STRINGS" "Z" (.int z)) (hz : ¬ z = 0) (l2 : cs.length ≤ 4000) (hfr : 2 ≤ R.frames) (hlo : W + 25 ≤ R.locals) :
    Back l R p e below s args (⟨"java/lang/String", "length", "()I"⟩ : MethodName) len W (fun P a => a = #[.ref x] ∧ P.U.heap = h ∧ P.cells + 0 ≤ R.cells ∧ P.slots + 0 ≤ R.slots)
      (fun P _ v B => ∃ L, (v = some (.int (Int32.ofNat cs.length)) ∧ L = [] ∧ B.U.heap = h) ∧ B.locs = P.locs ++ L ∧ B.cells = P.cells + 0 ∧ B.slots = P.slots + 0) := by
  obtain ⟨A, K1, K2, K3, K4, K5, K6⟩ := K
  have hcod := hc.cod (by omega) K3 K5
  intro m meth c P g ig mk a X hg hsize hdg hW hn hp'
  obtain ⟨rfl, rfl, r1, r2⟩ := hp'
  have al : Z.vm.Alike P.U.vm := hZ.alike.trans X.warmed.alike
  obtain ⟨D, fV, fC, hB, F1, F2, g1, g2, -, -⟩ := strObj wi al E V C
  have hx : Txt x t A cd cs.length (fun j => cs.getD j 0) P.U := ⟨⟨_, hB.2.2.1, D, hB.1, rfl, by cases q : D.vm <;> first | rfl | exact absurd q (hB.2.1.2 _)⟩, Has.of hB F1 g1, Has.of hB F2 g2, ⟨K1.1, State.isArrayOf_alike al K1.2.1, K1.2.2, by rcases hcod with ⟨-, q, -⟩ | ⟨-, q, -⟩ <;> omega⟩, hcod, fun j hj => by
    have e : cs.getD j 0 = cs[j] := by simp [List.getD_eq_getElem?_getD, hj]
    show ¬ cs.getD j 0 < 0 ∧ ¬ 65535 < cs.getD j 0
    rw [e]; exact hb _ (List.getElem_mem _)⟩
  obtain ⟨v, B, X', ⟨⟨hv, hh⟩, hl, hk, hs⟩, st⟩ := Len.pays x t A cd cs.length (fun j => cs.getD j 0) z (tabLen_of (movedLen hZ hw)) hfr hlo m meth c P g ig mk _ X hg hsize hdg hW hn ⟨r1, r2, rfl, hx, sta_is al S, hz⟩
  exact ⟨v, B, X', ⟨[], ⟨hv, rfl, hh⟩, hl, hk, hs⟩, st⟩
end StrChars.Road
namespace StrChars.Road
open Jvm Sem ClassFile Op Lib Jvm.Stand Jvm.Free Jvm.Free.XT
open Jvm.Lib.Cold (StaticIs)
/-- the road's facts of a String, as the laws ask it -/
theorem txt_of {Z U : State} {a0 : Array Value} {kI : Nat} (wi : (Jvm.Cond.instantiable ST kI).before a0 Z = true) (al : Z.vm.Alike U.vm) {x t : Addr} {kb : ClassId} {cs : List Int32} {cd N2 : Int32} {vs : List Value} (E : RoadKit.Exa Z U.heap x ST) (V : RoadKit.Fld Z U.heap x ST "value" "[B" (.ref t)) (C : RoadKit.Fld Z U.heap x ST "coder" "B" (.int cd)) (K : RoadKit.Arv Z U.heap t kb .byte N2 vs (.int 0)) (hc : CodA cs cd N2 vs) (hb : ∀ c ∈ cs, ¬ c < 0 ∧ ¬ (65535 : Int32) < c) (l2 : cs.length ≤ 4000) :
    ∃ A, Txt x t A cd cs.length (fun j => cs.getD j 0) U := by
  obtain ⟨A, K1, K2, K3, K4, K5, K6⟩ := K
  have hcod := hc.cod (by omega) K3 K5
  obtain ⟨D, fV, fC, hB, F1, F2, g1, g2, -, -⟩ := strObj wi al E V C
  exact ⟨A, ⟨_, hB.2.2.1, D, hB.1, rfl, by cases q : D.vm <;> first | rfl | exact absurd q (hB.2.1.2 _)⟩, Has.of hB F1 g1, Has.of hB F2 g2, ⟨K1.1, State.isArrayOf_alike al K1.2.1, K1.2.2, by rcases hcod with ⟨-, q, -⟩ | ⟨-, q, -⟩ <;> omega⟩, hcod, fun j hj => by
    have e : cs.getD j 0 = cs[j] := by simp [List.getD_eq_getElem?_getD, hj]
    show ¬ cs.getD j 0 < 0 ∧ ¬ 65535 < cs.getD j 0
    rw [e]; exact hb _ (List.getElem_mem _)⟩
end StrChars.Road
namespace StrChars
open Jvm Sem ClassFile Op Lib Jvm.Stand Jvm.Free.XT Jvm.Free.ALB Jvm.Free.JM Jvm.Free
open Jvm.Lib.Cold (StaticIs)
namespace ChN
def yN : MethodName := ⟨"java/lang/String", "charAt", "(I)C"⟩
abbrev yB : ByteArray := jdk_42_method_56_code
theorem d0 : decode yB 0 = .ok (.aload_n 0, 1) := by decide +kernel
theorem d1 : decode yB 1 = .ok (.invokevirtual 492, 3) := by decide +kernel
theorem d4 : decode yB 4 = .ok (.ifCond (.eq) 12, 3) := by decide +kernel
theorem d7 : decode yB 7 = .ok (.aload_n 0, 1) := by decide +kernel
theorem d8 : decode yB 8 = .ok (.getfield 9, 3) := by decide +kernel
theorem d11 : decode yB 11 = .ok (.iload_n 1, 1) := by decide +kernel
theorem d12 : decode yB 12 = .ok (.invokestatic 495, 3) := by decide +kernel
theorem d15 : decode yB 15 = .ok (.ireturn, 1) := by decide +kernel
def site : List Cond := [.fieldLink "java/lang/String" 9 "java/lang/String" "value" "[B", IsL.tab, LChA.tab] ++ virtW "java/lang/String" 492 "java/lang/String" IsL.yN IsL.yN ++ staticW "java/lang/String" 495 LChA.yN
def tab : Cond := tabOf yN yB 2 (some .char) site
def P (x t : Addr) (V : Cell) (n : Nat) (f : Nat → Int32) (z : Int32) (fm : Value) (i : Nat) (args : Array Value) (s : State) : Prop := args = #[.ref x, .int (Int32.ofNat i)] ∧ Txt x t V 0 n f s ∧ i < n ∧ StaticIs s "java/lang/String" "COMPACT_STRINGS" "Z" (.int z) ∧ ¬ z = 0 ∧ StaticIs s "jdk/internal/util/Preconditions" "SIOOBE_FORMATTER" "Ljava/util/function/BiFunction;" fm ∧ fm.isRef = true
def E (f : Nat → Int32) (i : Nat) (r : Option Value) (s u : State) : Prop := XT.PureE (some (.int (f i))) r s u
/-- charAt(i) of a Latin-1 String of n chars, i < n: f i -/
theorem law (l : Launch) (x t : Addr) (V : Cell) (n : Nat) (f : Nat → Int32) (z : Int32) (fm : Value) (i : Nat) : Law l yN 2 1 3 40 yB 2 (some .char) site (P x t V n f z fm i) (E f i) [] 0 0 := by
  refine Law.of_walk (plainFor_of_name (by decide +kernel)) (by decide +kernel) (by decide +kernel) (by decide) (fun _ _ h => by rw [h.1]; rfl) (fun _ U U' hal hh h => ⟨h.1, h.2.1.mv hal hh, h.2.2.1, h.2.2.2.1.there hal hh, h.2.2.2.2.1, h.2.2.2.2.2.1.there hal hh, h.2.2.2.2.2.2⟩) (fun r U U' V V' h1 hal h2 h => XT.PureE.mv r U U' V V' h1 hal h2 h) ?_
  intro p e s m args below meth c s₁ X0 hexec hbytes hml hret hlk hnm hown hh0 W hP
  obtain ⟨rfl, hx, hi, s1, hz, s3, rf⟩ := hP
  have v31 := hx.2.2.2.1.2.2.2
  have hr := hx.2.2.2.2.2 i hi
  have hx0 := hx.mv X0.warmed.alike hh0
  have c1 : Steps p.tables e below (s₁.setTop (entryFrame m #[.ref x, .int (Int32.ofNat i)] 2)) (s₁.setTop (mkF m 1 #[.val (.ref x), .val (.int (Int32.ofNat i))] [.ref x])) := Steps.trans (entry rfl) (by
    show Steps p.tables e below (s₁.setTop (mkF m 0 #[.val (.ref x), .val (.int (Int32.ofNat i))] [])) _
    refine XS.aloadN X0.here hexec rfl (hb hbytes d0) rfl rfl ?_
    exact Steps.refl _)
  obtain ⟨v2, T2, X2, E2, g2⟩ := X0.callV hexec (IsL.law l x 0 z) hown (wks W (virtW "java/lang/String" 492 "java/lang/String" IsL.yN IsL.yN)) rfl (by decide) (wk W IsL.tab) (W := 0) (Nat.le_of_ble_eq_true rfl) (Nat.le_of_ble_eq_true rfl) (Nat.le_refl _) (Nat.le_refl _) (hx0.1.fc X0.warmed.alike) hx0.1.is (g := (mkF m 1 #[.val (.ref x), .val (.int (Int32.ofNat i))] [.ref x])) rfl (by rw [hml]; rfl) c1 (argsL := []) (rest := []) rfl rfl (by show 2 * 0 + 0 ≤ _; decide) (hb hbytes d1) (⟨rfl, hx0.2.2.1, hx.2.2.2.2.1.cd, s1.there X0.warmed.alike hh0, hz⟩)
  obtain ⟨rfl, q2⟩ := E2
  have hh2 := q2.trans hh0
  have hx2 := hx.mv X2.warmed.alike hh2
  obtain ⟨-, k1, k2⟩ | ⟨k0, -⟩ := hx.2.2.2.2.1
  · have c3 : Steps p.tables e below (s₁.setTop (entryFrame m #[.ref x, .int (Int32.ofNat i)] 2)) (T2.setTop (mkF m 8 #[.val (.ref x), .val (.int (Int32.ofNat i))] [.ref x])) := Steps.trans g2 (by
      refine XS.ifNo X2.here hexec rfl (hb hbytes d4) rfl (i0_eq_f (by decide)) ?_
      refine XS.aloadN X2.here hexec rfl (hb hbytes d7) rfl rfl ?_
      exact Steps.refl _)
    obtain ⟨T4, X4, q4, st4⟩ := X2.hget hexec hown (wk W (.fieldLink "java/lang/String" 9 "java/lang/String" "value" "[B")) hx2.2.1 (g := (mkF m 8 #[.val (.ref x), .val (.int (Int32.ofNat i))] [.ref x])) rfl (rest := []) rfl (hb hbytes d8)
    have hh4 := q4.trans hh2
    have c5 : Steps p.tables e below (s₁.setTop (entryFrame m #[.ref x, .int (Int32.ofNat i)] 2)) (T4.setTop (mkF m 12 #[.val (.ref x), .val (.int (Int32.ofNat i))] [.int (Int32.ofNat i), .ref t])) := (c3.trans (st4 _ (Steps.refl _))).trans (by
      refine XS.iloadN X4.here hexec rfl (hb hbytes d11) rfl ?_
      exact Steps.refl _)
    obtain ⟨v6, T6, X6, E6, g6⟩ := X4.callS hexec (LChA.law l t V i (lo8 (f i)) fm) hown (wks W (staticW "java/lang/String" 495 LChA.yN)) (wk W LChA.tab) (W := 0) (Nat.le_of_ble_eq_true rfl) (Nat.le_of_ble_eq_true rfl) (Nat.le_refl _) (Nat.le_refl _) (g := (mkF m 12 #[.val (.ref x), .val (.int (Int32.ofNat i))] [.int (Int32.ofNat i), .ref t])) rfl (by rw [hml]; rfl) c5 (argsL := [.ref t, .int (Int32.ofNat i)]) (rest := []) rfl rfl (by show 2 * 0 + 0 ≤ _; decide) (hb hbytes d12) (⟨rfl, hx.2.2.2.1.mv X4.warmed.alike hh4, (k2 i hi).1, s3.there X4.warmed.alike hh4, rf⟩)
    obtain ⟨rfl, q6⟩ := E6
    rw [chr8_lo8 hr.1 (k2 i hi).2] at g6
    exact ⟨T6, some (.int (f i)), _, _, _, X6, rfl, rfl, rfl, (fun h => by cases h), ⟨rfl, q6.trans hh4⟩, fun fs hl => Steps.trans g6 (X6.ireturnOut hexec hret (narrow_ch hr.1 hr.2) (Or.inr (Or.inr (Or.inr (Or.inl rfl)))) (hb hbytes d15) hl)⟩
  · exact absurd k0 (by decide)
theorem pays {l : Launch} {R : Room} {p : Program} {e : Env} {below : List Frame} {s : State} {sargs : Array Value} {len W : Nat} (x t : Addr) (V : Cell) (n : Nat) (f : Nat → Int32) (z : Int32) (fm : Value) (i : Nat) (htab : tab.before sargs s = true) (hfr : 4 ≤ R.frames) (hlo : W + 53 ≤ R.locals) :
    Back l R p e below s sargs yN len W (fun A₁ a₁ => A₁.cells + 0 ≤ R.cells ∧ A₁.slots + 0 ≤ R.slots ∧ P x t V n f z fm i a₁ A₁.U) (fun A₁ _ v₁ B₁ => E f i v₁ A₁.U B₁.U ∧ B₁.locs = A₁.locs ++ [] ∧ B₁.cells = A₁.cells + 0 ∧ B₁.slots = A₁.slots + 0) :=
  (law l x t V n f z fm i).pays htab hfr (by omega)
end ChN
end StrChars
namespace StrChars.Road
open Jvm Sem ClassFile Op Lib Jvm.Stand Jvm.Free Jvm.Free.XT
open Jvm.Lib.Cold (StaticIs)
/-- the words of String.charAt(int), the Latin-1 road alone -/
abbrev wordsChN : List Jvm.Cond := [.code ChN.yN ChN.yB 2 (some .char), .initialized ST, .fieldLink ST 9 ST "value" "[B", .fieldLink ST 38 ST "COMPACT_STRINGS" "Z", .fieldLink ST 15 ST "coder" "B", .code IsL.yN IsL.yB 1 (some .boolean), .methodLink ST 492 IsL.yN, .declares IsL.yN, .selects ST IsL.yN IsL.yN, .instanceMethod IsL.yN,
  .methodLink ST 495 LChA.yN, .static LChA.yN, .code LChA.yN LChA.yB 2 (some .char), .initialized "java/lang/StringLatin1", .methodLink "java/lang/StringLatin1" 9 JO.Str_checkIndex.yN, .static JO.Str_checkIndex.yN, .code JO.Str_checkIndex.yN JO.Str_checkIndex.yB 2 none,
  .fieldLink ST 1053 "jdk/internal/util/Preconditions" "SIOOBE_FORMATTER" "Ljava/util/function/BiFunction;", .methodLink ST 1059 JC.PreCheck.yN, .static JC.PreCheck.yN, .code JC.PreCheck.yN JC.PreCheck.yB 3 (some .int), .initialized "jdk/internal/util/Preconditions"]
theorem tabChN_of {a : Array Value} {s : State} (h : ∀ w ∈ wordsChN, w.before a s = true) : ChN.tab.before a s = true := by
  have hp : JC.PreCheck.tab.before a s = true := unparts (wk h (.code JC.PreCheck.yN JC.PreCheck.yB 3 (some .int))) (wks h (.initialized JC.PreCheck.yN.cls :: JC.PreCheck.site))
  have qk := consq hp h
  have hk : JO.Str_checkIndex.tab.before a s = true := unparts (wk qk (.code JO.Str_checkIndex.yN JO.Str_checkIndex.yB 2 none)) (wks qk (.initialized JO.Str_checkIndex.yN.cls :: JO.Str_checkIndex.site))
  have ql := consq hk h
  have hl : LChA.tab.before a s = true := unparts (wk ql (.code LChA.yN LChA.yB 2 (some .char))) (wks ql (.initialized LChA.yN.cls :: LChA.site))
  have hi : IsL.tab.before a s = true := unparts (wk h (.code IsL.yN IsL.yB 1 (some .boolean))) (wks h (.initialized IsL.yN.cls :: IsL.site))
  have q := consq hi (consq hl h)
  exact unparts (wk q (.code ChN.yN ChN.yB 2 (some .char))) (wks q (.initialized ChN.yN.cls :: ChN.site))
theorem movedChN {Z s : State} {a0 args : Array Value} (hZ : Z.Warmed39 s.vm) (hw : ∀ d ∈ wordsChN, d.before a0 Z = true) : ∀ d ∈ wordsChN, d.before args s = true := fun d hd => by
  have t : ∀ d ∈ wordsChN, (d.onTables && d.keepsFace) = true := by decide +kernel
  exact RoadKit.mv hZ (hw d hd) (t d hd)
/-- **charAt(i) OF A LATIN-1 STRING**, i < n: the char -/
theorem chN {p : Program} {l : Launch} {e : Env} {R : Room} {s : State} {args : Array Value} {below : List Frame} {len W : Nat} {Z : State} {a0 : Array Value} {h : Heap} (hZ : Z.Warmed39 s.vm) (hw : ∀ d ∈ wordsChN, d.before a0 Z = true) {kI : Nat} (wi : (Jvm.Cond.instantiable ST kI).before a0 Z = true)
    {x t : Addr} {kb : ClassId} {cs : List Int32} {N2 z : Int32} {vs : List Value} {fm : Value} {i : Nat} {j : Int32} (E : RoadKit.Exa Z h x ST) (V : RoadKit.Fld Z h x ST "value" "[B" (.ref t)) (C : RoadKit.Fld Z h x ST "coder" "B" (.int 0)) (K : RoadKit.Arv Z h t kb .byte N2 vs (.int 0)) (hc : CodA cs 0 N2 vs) (hb : ∀ c ∈ cs, ¬ c < 0 ∧ ¬ (65535 : Int32) < c)
    (S : RoadKit.Sta Z h ST "COMPACT_STRINGS" "Z" (.int z)) (hz : ¬ z = 0) (F : RoadKit.Sta Z h "jdk/internal/util/Preconditions" "SIOOBE_FORMATTER" "Ljava/util/function/BiFunction;" fm) (rf : fm.isRef = true) (l2 : cs.length ≤ 4000) (hi : i < cs.length) (hj : j = Int32.ofNat i) (hfr : 4 ≤ R.frames) (hlo : W + 53 ≤ R.locals) :
    Back l R p e below s args (⟨"java/lang/String", "charAt", "(I)C"⟩ : MethodName) len W (fun P a => a = #[.ref x, .int j] ∧ P.U.heap = h ∧ P.cells + 0 ≤ R.cells ∧ P.slots + 0 ≤ R.slots)
      (fun P _ v B => ∃ L, (v = some (.int (cs.getD i 0)) ∧ L = [] ∧ B.U.heap = h) ∧ B.locs = P.locs ++ L ∧ B.cells = P.cells + 0 ∧ B.slots = P.slots + 0) := by
  subst hj
  intro m meth c P g ig mk a X hg hsize hdg hW hn hp'
  obtain ⟨rfl, rfl, r1, r2⟩ := hp'
  have al : Z.vm.Alike P.U.vm := hZ.alike.trans X.warmed.alike
  obtain ⟨A, hx⟩ := txt_of wi al E V C K hc hb l2
  obtain ⟨v, B, X', ⟨⟨hv, hh⟩, hl, hk, hs⟩, st⟩ := ChN.pays x t A cs.length (fun j => cs.getD j 0) z fm i (tabChN_of (movedChN hZ hw)) hfr hlo m meth c P g ig mk _ X hg hsize hdg hW hn ⟨r1, r2, rfl, hx, hi, sta_is al S, hz, sta_is al F, rf⟩
  exact ⟨v, B, X', ⟨[], ⟨hv, rfl, hh⟩, hl, hk, hs⟩, st⟩
/-- what backV says of its String, as the contracts of this text ask it: cs's low bytes, coder 0 -/
theorem codOf {cs : List Int32} {n : Nat} (hn : cs.length = n) (hb : ∀ c ∈ cs, ¬ 255 < c) : CodA cs 0 (Int32.ofNat n) ((cs.map lo8).map Value.int) := Or.inl ⟨rfl, by rw [hn], by simp [List.map_map, Function.comp_def], hb⟩
end StrChars.Road
end Jvm.Pilot.@@N@@

namespace Jvm.Pilot.@@N@@
open Jvm Jvm.ClassFile Sem Op Lib Jvm.Free Jvm.Stand Jvm.LawKit Jvm.RoadKit Bundle
theorem ow {a0 : Array Value} {Z : State} (hw : ∀ d ∈ tables_1, d.before a0 Z = true) (i : Nat) {d : Jvm.Cond} (q : tables_1[i]? = some d) : d.before a0 Z = true := hw _ (List.mem_of_getElem? q)
theorem own_acEt {x y : Value} (h : x = y) : Jvm.Free.XT.acmp .eq x y = true := by simp [Jvm.Free.XT.acmp, h]
theorem own_acEf {x y : Value} (h : ¬ x = y) : Jvm.Free.XT.acmp .eq x y = false := by simp [Jvm.Free.XT.acmp, h]
theorem own_acNt {x y : Value} (h : ¬ x = y) : Jvm.Free.XT.acmp .ne x y = true := by simp [Jvm.Free.XT.acmp, h]
theorem own_acNf {x y : Value} (h : x = y) : Jvm.Free.XT.acmp .ne x y = false := by simp [Jvm.Free.XT.acmp, h]
theorem own_rem (x y : Int32) : x - (x / y) * y = x % y := by
  apply Int32.toInt_inj.mp
  have h1 := Int32.le_toInt (x % y)
  have h2 := Int32.toInt_lt (x % y)
  have e1 : (x - (x / y) * y).toInt = (x.toInt - (x / y).toInt * y.toInt).bmod (2 ^ 32) := by rw [Int32.toInt_sub, Int32.toInt_mul, Int.sub_bmod_bmod]
  rw [e1, Int32.toInt_div]
  have e2 : (x.toInt - (x.toInt.tdiv y.toInt).bmod (2 ^ 32) * y.toInt).bmod (2 ^ 32) = (x.toInt.tmod y.toInt).bmod (2 ^ 32) := by
    rw [← Int.sub_bmod_bmod, Int.bmod_mul_bmod, Int.sub_bmod_bmod, Int.tmod_def, Int.mul_comm]
  rw [e2, ← Int32.toInt_mod]
  exact Int.bmod_eq_of_le_mul_two (by omega) (by omega)
theorem own_cat {x : Value} (h : x.isRef = true) : x.category = 1 := by rcases ref_cases h with rfl | ⟨a, rfl⟩ <;> rfl
theorem own_nar {x : Value} {C : String} (h : x.isRef = true) : narrow (.object C) x = x := by rcases ref_cases h with rfl | ⟨a, rfl⟩ <;> rfl
theorem own_fit {x : Value} {C : String} (h : x.isRef = true) : fits (.object C) x = true := by rcases ref_cases h with rfl | ⟨a, rfl⟩ <;> rfl
theorem own_pure {Z : State} {h : Heap} {P : Option Value → Prop} : ∀ (v : Option Value) (h' : Heap) (L : List Loc), (Fr Z.heap.size L ∧ Ext Z.heap h' ∧ P v ∧ h = h') → Fr Z.heap.size L ∧ Keep h h' [] := fun v h' L q => ⟨q.1, q.2.2.2 ▸ Keep.refl _ _⟩
section OwnLayer
variable {p : Program} {l : Launch} {e : Env} {R : Room} {s : State} {m : MethodId} {args : Array Value} {below : List Frame} {meth : Method} {c : Code} {Z : State} {EL : List (String × Nat)} {a0 : Array Value} {T : State} {h : Heap} {k n : Nat} {sf : List Addr} {w : Bool}
/-- the tables since the start: wide (w): literals may have been interned; narrow: the Stand's own start -/
def own_rel : Bool → State → Vm → Nat → Prop
  | true, s, v0, k => s.Since v0 k
  | false, s, v0, _ => v0 = s.vm
def own_end : Bool → State → Outcome → State → List Loc → Nat → Nat → Prop
  | true, s, o, t, L, k, n => ReturnedEndW s o t L k n
  | false, s, o, t, L, k, n => FrameEnd s o t L k n
theorem own_alike {vm : Vm} {k0 : Nat} (r : own_rel w s vm k0) : s.vm.Alike vm := by
  cases w
  · cases r; exact Vm.Alike.refl _
  · exact r.1.alike
theorem own_found {vm : Vm} {k0 : Nat} {own : String} {c0 : ClassId} (r : own_rel w s vm k0) (q : s.vm.findClass own = some c0) : (s.setVm vm).vm.findClass own = some c0 := by
  show vm.findClass own = _
  rw [(own_alike r).findClass]; exact q
/-- where a walk stands: the Stand over the start with the tables at hand, the heap, nothing old written, the constants held, sf: cells that no constant stands for -/
def Wk (p : Program) (l : Launch) (e : Env) (R : Room) (s : State) (m : MethodId) (args : Array Value) (below : List Frame) (meth : Method) (c : Code) (Z : State) (EL : List (String × Nat)) (a0 : Array Value) (w : Bool) (T : State) (h : Heap) (k n : Nat) (sf : List Addr) : Prop :=
  EW Z a0 EL ∧ ∃ (vm0 : Vm) (locs : List Loc) (k0 : Nat), Stand p l e R (s.setVm vm0) m args below meth c T locs k n ∧ T.heap = h ∧ own_rel w s vm0 k0 ∧ k0 ≤ h.size ∧ Z.Warmed39 vm0 ∧ Fr Z.heap.size locs ∧ Ext Z.heap h ∧ CHr Z EL s.vm s.heap vm0 h ∧ ∀ x ∈ sf, x < h.size ∧ Safe Z EL vm0 h x
theorem Wk.here (H : Wk p l e R s m args below meth c Z EL a0 w T h k n sf) : At T m c below := by obtain ⟨-, _, _, _, X, -⟩ := H; exact X.here
theorem Wk.old (H : Wk p l e R s m args below meth c Z EL a0 w T h k n sf) : Ext Z.heap h := by obtain ⟨-, _, _, _, -, -, -, -, -, -, O, -⟩ := H; exact O
theorem Wk.more (H : Wk p l e R s m args below meth c Z EL a0 w T h k n sf) {k' n' : Nat} (hk : k ≤ k') (hn : n ≤ n') : Wk p l e R s m args below meth c Z EL a0 w T h k' n' sf := by
  obtain ⟨q, vm0, locs, k0, X, r⟩ := H; exact ⟨q, vm0, locs, k0, X.more hk hn, r⟩
theorem Wk.less (H : Wk p l e R s m args below meth c Z EL a0 w T h k n sf) {sf' : List Addr} (q : ∀ x ∈ sf', x ∈ sf) : Wk p l e R s m args below meth c Z EL a0 w T h k n sf' := by
  obtain ⟨q0, vm0, locs, k0, X, eT, r, hk, hZ, N, O, C, S⟩ := H; exact ⟨q0, vm0, locs, k0, X, eT, r, hk, hZ, N, O, C, fun x hx => S x (q x hx)⟩
def Go (p : Program) (e : Env) (below : List Frame) (Φ : State → Prop) (T : State) (g : JFrame) : Prop := ∃ U, Steps p.tables e below (T.setTop g) U ∧ Φ U
variable {Φ : State → Prop}
theorem Go.of {T' : State} {g g' : JFrame} (st : ∀ t, Steps p.tables e below (T'.setTop g') t → Steps p.tables e below (T.setTop g) t) (K : Go p e below Φ T' g') : Go p e below Φ T g := by
  obtain ⟨U, a, b⟩ := K; exact ⟨U, st U a, b⟩
theorem Go.by {T' : State} {g g' : JFrame} (st : Steps p.tables e below (T.setTop g) (T'.setTop g')) (K : Go p e below Φ T' g') : Go p e below Φ T g := by
  obtain ⟨U, a, b⟩ := K; exact ⟨U, st.trans a, b⟩
theorem Go.eq {g g' : JFrame} (q : g = g') (K : Go p e below Φ T g') : Go p e below Φ T g := q ▸ K
def own_fin (Z : State) (EL : List (String × Nat)) (w : Bool) (s : State) (below : List Frame) (Q : Option Value → Heap → Prop) (kc kn : Nat) (U : State) : Prop :=
  ∃ o, U.status = .running ∧ Ended U below o ∧ ∃ v L, o = .returned v ∧ (Fr Z.heap.size L ∧ Ext Z.heap U.heap ∧ Q v U.heap) ∧ CHr Z EL s.vm s.heap U.vm U.heap ∧ own_end w s o U L kc kn
/-- a method's contract -/
def Ct (l : Launch) (Z : State) (EL : List (String × Nat)) (a0 : Array Value) (w : Bool) (y : MethodName) (bytes : ByteArray) (maxL : Nat) (ret : Option FieldType) (ws : List Jvm.Cond) (rm : Room) (as' : Array Value) (h0 : Heap) (sf : List Addr) (Q : Option Value → Heap → Prop) : Prop :=
  MetFree l y (head1 (Jvm.Cond.code y bytes maxL ret :: ws) rm) (fun a U => a = as' ∧ Z.Warmed39 U.vm ∧ U.heap = h0 ∧ CHv Z EL U.vm h0 ∧ ∀ x ∈ sf, x < h0.size ∧ Safe Z EL U.vm h0 x) (fun _ _ _ _ _ => True)
    (fun _ U o U' => ∃ v L, o = .returned v ∧ (Fr Z.heap.size L ∧ Ext Z.heap U'.heap ∧ Q v U'.heap) ∧ CHr Z EL U.vm U.heap U'.vm U'.heap ∧ own_end w U o U' L rm.cells rm.slots)
theorem own_enter {y : MethodName} {bytes : ByteArray} {maxL : Nat} {ret : Option FieldType} {ws : List Jvm.Cond} {rm : Room} {as' : Array Value} {h0 : Heap} {Q : Option Value → Heap → Prop} (hp : plainFor y = true) (hE : EW Z a0 EL) (O : Ext Z.heap h0)
    (B : ∀ (p : Program) (e : Env) (s : State) (m : MethodId) (below : List Frame) (meth : Method) (c : Code) (s₁ : State), p.tables.exec = Jvm.exec → c.code = bytes → c.maxLocals = maxL → s.vm.findClass y.cls = some m.cls → meth.name = y.name → meth.sig.returnType = ret → meth.locks = false →
      Wk p l e rm s m as' below meth c Z EL a0 w s₁ h0 0 0 sf → Go p e below (own_fin Z EL w s below Q rm.cells rm.slots) s₁ (entryFrame m as' maxL)) :
    Ct l Z EL a0 w y bytes maxL ret ws rm as' h0 sf Q := by
  refine MetFree.of_bodySF hp hisR ?_
  intro p e s m args below meth c s₁ Bd hml0 hP hK
  obtain ⟨rfl, hZ, hh, hC, hS⟩ := hP
  have X0 : Stand p l e rm s m args below meth c s₁ [] 0 0 := Stand.of_body Bd
  have e0 : s₁.heap = h0 := by rw [← hh, Bd.state]; rfl
  obtain ⟨U, st, o, r1, r2, v, L, rfl, r3, r4, r5⟩ := B p e s m below meth c s₁ Bd.exec Bd.bytes hml0 (findClass_of_methodNamed Bd.named) (name_of_methodNamed Bd.named Bd.method).1 Bd.returns Bd.notSynchronized
    ⟨hE, s.vm, [], 0, X0, e0, by cases w; exact rfl; exact (State.WarmedH.refl s).since _, Nat.zero_le _, hZ, Fr.nil _, O, by rw [hh]; exact CHr.refl hC, hS⟩
  exact ⟨U, _, st, r1, r2, v, L, rfl, r3, r4, r5⟩
def own_sw (Z : State) (EL : List (String × Nat)) (sf : List Addr) (h : Heap) (a : Addr) : Prop := a ∈ sf ∨ (∃ C, Exa Z h a C ∧ C ≠ "java/lang/String" ∧ C ≠ "[B") ∨ (∃ cl ty, Arr Z h a cl ty ∧ ty ≠ .byte)
theorem own_sw.safe {vm0 : Vm} {a : Addr} (q : own_sw Z EL sf h a) (hal : Z.vm.Alike vm0) (S : ∀ x ∈ sf, x < h.size ∧ Safe Z EL vm0 h x) : Safe Z EL vm0 h a := by
  rcases q with q | ⟨C, E, h1, h2⟩ | ⟨cl, ty, A, ht⟩
  · exact (S a q).2
  · exact Safe.exa hal E h1 h2
  · exact Safe.arr hal A ht
theorem own_mem {a : Addr} (q : a ∈ sf) : own_sw Z EL sf h a := Or.inl q
theorem own_exa {a : Addr} {C : String} (E : Exa Z h a C) (h1 : C ≠ "java/lang/String" := by decide) (h2 : C ≠ "[B" := by decide) : own_sw Z EL sf h a := Or.inr (Or.inl ⟨C, E, h1, h2⟩)
theorem own_arr {a : Addr} {k0 : ClassId} {ty : FieldType} {z : Int32} {vs : List Value} {d : Value} (V : Arv Z h a k0 ty z vs d) (q : ty ≠ .byte := by decide) : own_sw Z EL sf h a := by
  obtain ⟨cl, A, -⟩ := V; exact Or.inr (Or.inr ⟨cl, ty, A, q⟩)
theorem own_wrote {vm0 : Vm} {locs : List Loc} {k0 : Nat} {T' : State} {h' : Heap} {a : Addr} {sl : Nat} {v : Value} (hE : EW Z a0 EL) (X' : Stand p l e R (s.setVm vm0) m args below meth c T' (locs ++ [⟨a, sl⟩]) k n) (e' : T'.heap = h') (W : Wr h h' a sl v) (r : own_rel w s vm0 k0) (hk : k0 ≤ h.size) (hZ : Z.Warmed39 vm0) (N : Fr Z.heap.size locs) (O : Ext Z.heap h) (C : CHr Z EL s.vm s.heap vm0 h) (S : ∀ x ∈ sf, x < h.size ∧ Safe Z EL vm0 h x) (ha : Z.heap.size ≤ a) (hs : own_sw Z EL sf h a) :
    Wk p l e R s m args below meth c Z EL a0 w T' h' k n sf := by
  have sa := hs.safe hZ.alike S
  have sz := W.size
  exact ⟨hE, vm0, _, k0, X', e', r, by rw [sz]; exact hk, hZ, Fr.snoc X' N ha, (Old.wr ⟨rfl, O⟩ W ha).2, C.trans (CHr.wr W sa C.1), fun x hx => ⟨by rw [sz]; exact (S x hx).1, Safe.wr W sa C.1 (S x hx).2⟩⟩
theorem own_irem (H : Wk p l e R s m args below meth c Z EL a0 w T h k n sf) (hx : p.tables.exec = Jvm.exec) {g : JFrame} (hg : g.method = m) {x y : Int32} {rest : List Value} (hd : decode c.code g.pc = .ok (.irem, 1)) (hs : g.stack = .int y :: .int x :: rest) (hy : y ≠ 0)
    (K : Go p e below Φ T { g with pc := g.pc + 1, stack := .int (x % y) :: rest }) : Go p e below Φ T g := by
  rw [← own_rem] at K
  exact Go.of (fun _ => XS.irem H.here hx hg hd hs hy) K
theorem own_getF (H : Wk p l e R s m args below meth c Z EL a0 w T h k n sf) (hx : p.tables.exec = Jvm.exec) {own R0 O nn d host : String} {index : Nat} (hown : s.vm.findClass own = some m.cls) (wd : (Cond.fieldLink own index R0 nn d).before a0 Z = true ∨ (Cond.fieldLinkNest own index R0 nn d host).before a0 Z = true) (via : Via Z R0 O nn d) {a : Addr} {v : Value} (F : Fld Z h a O nn d v) {g : JFrame} (hg : g.method = m) {rest : List Value} (hs : g.stack = .ref a :: rest) (hd : decode c.code g.pc = .ok (.getfield index, 3))
    (K : ∀ T', Wk p l e R s m args below meth c Z EL a0 w T' h k n sf → Go p e below Φ T' { g with pc := g.pc + 3, stack := v :: rest }) : Go p e below Φ T g := by
  obtain ⟨hE, vm0, locs, k0, X, eT, r, hk, hZ, N, O, C, S⟩ := H
  obtain ⟨T', X', e', st⟩ := getF X hx hZ (own_found r hown) wd via eT F hg hs hd
  exact Go.of st (K T' ⟨hE, vm0, locs, k0, X', e', r, hk, hZ, N, O, C, S⟩)
theorem own_getS (H : Wk p l e R s m args below meth c Z EL a0 w T h k n sf) (hx : p.tables.exec = Jvm.exec) {own R0 O nn d host : String} {index : Nat} (hown : s.vm.findClass own = some m.cls) (wd : (Cond.fieldLink own index R0 nn d).before a0 Z = true ∨ (Cond.fieldLinkNest own index R0 nn d host).before a0 Z = true) (via : Via Z R0 O nn d) {v : Value} (F : Sta Z Z.heap O nn d v) {g : JFrame} (hg : g.method = m) (hd : decode c.code g.pc = .ok (.getstatic index, 3))
    (K : ∀ T', Wk p l e R s m args below meth c Z EL a0 w T' h k n sf → Go p e below Φ T' { g with pc := g.pc + 3, stack := v :: g.stack }) : Go p e below Φ T g := by
  obtain ⟨hE, vm0, locs, k0, X, eT, r, hk, hZ, N, O, C, S⟩ := H
  obtain ⟨T', X', e', st⟩ := getS2 X hx hZ (own_found r hown) wd via eT (F.ext O) hg hd
  exact Go.of st (K T' ⟨hE, vm0, locs, k0, X', e', r, hk, hZ, N, O, C, S⟩)
theorem own_putF (H : Wk p l e R s m args below meth c Z EL a0 w T h k n sf) (hx : p.tables.exec = Jvm.exec) {own R0 O nn d host C : String} {index kk : Nat} {ty : FieldType} (hown : s.vm.findClass own = some m.cls) (wd : (Cond.fieldLink own index R0 nn d).before a0 Z = true ∨ (Cond.fieldLinkNest own index R0 nn d host).before a0 Z = true) (via : Via Z R0 O nn d)
    {a : Addr} {v old : Value} (F : Fld Z h a O nn d old) (E : Exa Z h a C) (L : (Cond.lays C O nn d).before a0 Z = true ∨ ((Cond.laysFinal C O nn d).before a0 Z = true ∧ own = O ∧ meth.name = "<init>")) (wi : (Cond.instantiable C kk).before a0 Z = true)
    (hty : parseFieldDescriptor d = some ty) (hn : narrow ty v = v) (hf : fits ty v = true) (ha : Z.heap.size ≤ a) (hsw : own_sw Z EL sf h a) {g : JFrame} (hg : g.method = m) {rest : List Value} (hs : g.stack = v :: .ref a :: rest) (hd : decode c.code g.pc = .ok (.putfield index, 3))
    (K : ∀ T' h', Wk p l e R s m args below meth c Z EL a0 w T' h' k n sf → Wr h h' a (Jvm.RoadKit.slotOf Z O nn d) v → Go p e below Φ T' { g with pc := g.pc + 3, stack := rest }) : Go p e below Φ T g := by
  obtain ⟨hE, vm0, locs, k0, X, eT, r, hk, hZ, N, Od, C, S⟩ := H
  obtain ⟨T', h', X', e', W, st⟩ := putF X hx hZ (own_found r hown) wd via eT F E L wi hty hn hf hg hs hd
  exact Go.of st (K T' h' (own_wrote hE X' e' W r hk hZ N Od C S ha hsw) W)
theorem own_putFN (H : Wk p l e R s m args below meth c Z EL a0 w T h k n sf) (hx : p.tables.exec = Jvm.exec) {own R0 O nn d C : String} {index kk : Nat} {ty : FieldType} (hown : s.vm.findClass own = some m.cls) (wd : (Cond.fieldLink own index R0 nn d).before a0 Z = true) (via : Via Z R0 O nn d)
    {a : Addr} {v v' old : Value} (F : Fld Z h a O nn d old) (E : Exa Z h a C) (L : (Cond.lays C O nn d).before a0 Z = true ∨ ((Cond.laysFinal C O nn d).before a0 Z = true ∧ own = O ∧ meth.name = "<init>")) (wi : (Cond.instantiable C kk).before a0 Z = true)
    (hty : parseFieldDescriptor d = some ty) (hn : narrow ty v = v') (hf : fits ty v' = true) (ha : Z.heap.size ≤ a) (hsw : own_sw Z EL sf h a) {g : JFrame} (hg : g.method = m) {rest : List Value} (hs : g.stack = v :: .ref a :: rest) (hd : decode c.code g.pc = .ok (.putfield index, 3))
    (K : ∀ T' h', Wk p l e R s m args below meth c Z EL a0 w T' h' k n sf → Wr h h' a (Jvm.RoadKit.slotOf Z O nn d) v' → Go p e below Φ T' { g with pc := g.pc + 3, stack := rest }) : Go p e below Φ T g := by
  obtain ⟨hE, vm0, locs, k0, X, eT, r, hk, hZ, N, Od, C, S⟩ := H
  obtain ⟨T', h', X', e', W, st⟩ := putFN X hx hZ (own_found r hown) wd via eT F E L wi hty hn hf hg hs hd
  exact Go.of st (K T' h' (own_wrote hE X' e' W r hk hZ N Od C S ha hsw) W)
theorem own_grew {vm0 : Vm} {locs : List Loc} {k0 : Nat} {T' : State} {h' : Heap} {k' n' : Nat} (hE : EW Z a0 EL) (X' : Stand p l e R (s.setVm vm0) m args below meth c T' locs k' n') (e' : T'.heap = h') (E : Ext h h') (hlt : h.size < h'.size) (r : own_rel w s vm0 k0) (hk : k0 ≤ h.size) (hZ : Z.Warmed39 vm0) (N : Fr Z.heap.size locs) (O : Ext Z.heap h) (C : CHr Z EL s.vm s.heap vm0 h) (S : ∀ x ∈ sf, x < h.size ∧ Safe Z EL vm0 h x) :
    Wk p l e R s m args below meth c Z EL a0 w T' h' k' n' (h.size :: sf) := by
  refine ⟨hE, vm0, _, k0, X', e', r, Nat.le_trans hk E.1, hZ, N, (Old.ext ⟨rfl, O⟩ E).2, C.trans (CHr.ext E C.1), fun x hx => ?_⟩
  rcases List.mem_cons.mp hx with rfl | hx
  · exact ⟨hlt, (Safe.new (Nat.le_refl _)).ext E C.1⟩
  · exact ⟨Nat.lt_of_lt_of_le (S x hx).1 E.1, (S x hx).2.ext E C.1⟩
theorem own_new (H : Wk p l e R s m args below meth c Z EL a0 w T h k n sf) (hx : p.tables.exec = Jvm.exec) {own C : String} {index nf : Nat} (hown : s.vm.findClass own = some m.cls) (w1 : (Cond.classLink own index C).before a0 Z = true) (wi : (Cond.instantiable C nf).before a0 Z = true) (wz : (Cond.initialized C).before a0 Z = true)
    {g : JFrame} (hg : g.method = m) (hd : decode c.code g.pc = .ok (.new index, 3)) (hc : k + 1 ≤ R.cells) (hl : n + nf ≤ R.slots)
    (K : ∀ T' h' b, b = h.size → Wk p l e R s m args below meth c Z EL a0 w T' h' (k + 1) (n + nf) (b :: sf) → Ext h h' → Exa Z h' b C → (∀ {O nm d : String} {ty : FieldType}, Laid Z a0 C O nm d → parseFieldDescriptor d = some ty → Fld Z h' b O nm d (defaultValue ty)) → Go p e below Φ T' { g with pc := g.pc + 3, stack := .ref b :: g.stack }) : Go p e below Φ T g := by
  obtain ⟨hE, vm0, locs, k0, X, eT, r, hk, hZ, N, O, C, S⟩ := H
  obtain ⟨T', h', X', e', E, A, D, -, st⟩ := newO X hx hZ (own_found r hown) w1 wi wz eT hg hd hc hl
  exact Go.of st (K T' h' _ rfl (own_grew hE X' e' E A.lt r hk hZ N O C S) E A D)
theorem own_newP (H : Wk p l e R s m args below meth c Z EL a0 w T h k n sf) (hx : p.tables.exec = Jvm.exec) {aty : ArrayType} (w1 : (Cond.arrayClass (newarray.typeOf aty)).before a0 Z = true) {g : JFrame} (hg : g.method = m) (hd : decode c.code g.pc = .ok (.newarray aty, 2)) {z : Int32} {rest : List Value} (hs : g.stack = .int z :: rest)
    (hz : ¬ z < 0) {cap : Nat} (hcap : z.toNatClampNeg ≤ cap) (hb : cap * 8 ≤ 536870912) (hc : k + 1 ≤ R.cells) (hl : n + cap ≤ R.slots)
    (K : ∀ T' h' b kA, b = h.size → Wk p l e R s m args below meth c Z EL a0 w T' h' (k + 1) (n + cap) (b :: sf) → Ext h h' → Arv Z h' b kA (newarray.typeOf aty) z [] (defaultValue (newarray.typeOf aty)) → Go p e below Φ T' { g with pc := g.pc + 2, stack := .ref b :: rest }) : Go p e below Φ T g := by
  obtain ⟨hE, vm0, locs, k0, X, eT, r, hk, hZ, N, O, C, S⟩ := H
  obtain ⟨T', h', kA, X', e', E, A, st⟩ := newP X hx hZ w1 eT hg hd hs hz hcap hb hc hl
  exact Go.of st (K T' h' _ kA rfl (own_grew hE X' e' E A.lt r hk hZ N O C S) E (Arv.new A hz))
theorem own_newR (H : Wk p l e R s m args below meth c Z EL a0 w T h k n sf) (hx : p.tables.exec = Jvm.exec) {own C : String} {index : Nat} (hown : s.vm.findClass own = some m.cls) (w1 : (Cond.classLink own index C).before a0 Z = true) (w2 : (Cond.arrayOver (.object C)).before a0 Z = true) {g : JFrame} (hg : g.method = m) (hd : decode c.code g.pc = .ok (.anewarray index, 3)) {z : Int32} {rest : List Value} (hs : g.stack = .int z :: rest)
    (hz : ¬ z < 0) {cap : Nat} (hcap : z.toNatClampNeg ≤ cap) (hb : cap * 8 ≤ 536870912) (hc : k + 1 ≤ R.cells) (hl : n + cap ≤ R.slots)
    (K : ∀ T' h' b kA, b = h.size → Wk p l e R s m args below meth c Z EL a0 w T' h' (k + 1) (n + cap) (b :: sf) → Ext h h' → Arv Z h' b kA (.object C) z [] .null → Ovr Z kA C → Go p e below Φ T' { g with pc := g.pc + 3, stack := .ref b :: rest }) : Go p e below Φ T g := by
  obtain ⟨hE, vm0, locs, k0, X, eT, r, hk, hZ, N, O, C, S⟩ := H
  obtain ⟨T', h', kA, X', e', E, A, Ov, st⟩ := newR X hx hZ (own_found r hown) w1 w2 eT hg hd hs hz hcap hb hc hl
  exact Go.of st (K T' h' _ kA rfl (own_grew hE X' e' E A.lt r hk hZ N O C S) E (Arv.new A hz) Ov)
theorem own_initO (H : Wk p l e R s m args below meth c Z EL a0 w T h k n sf) (hx : p.tables.exec = Jvm.exec) {own : String} {idx : Nat} (hown : s.vm.findClass own = some m.cls) (w1 : (Cond.methodLink own idx Lib.objectInit).before a0 Z = true) (w2 : (Cond.instanceMethod Lib.objectInit).before a0 Z = true)
    (w3 : (Cond.code Lib.objectInit ⟨#[0xb1]⟩ 1 none).before a0 Z = true) {g : JFrame} (hg : g.method = m) (hsize : g.locals.size = c.maxLocals) {a : Addr} {rest : List Value} (hs : g.stack = .ref a :: rest) (hd : decode c.code g.pc = .ok (.invokespecial idx, 3))
    (hf : 1 ≤ R.frames) {W : Nat} (hW : 2 * g.monitorRoom + (rest.map fun v => v.category).sum ≤ W) (hl : W + 12 ≤ R.locals)
    (K : ∀ T', Wk p l e R s m args below meth c Z EL a0 w T' h k n sf → Go p e below Φ T' { g with pc := g.pc + 3, stack := rest }) : Go p e below Φ T g := by
  obtain ⟨hE, vm0, locs, k0, X, eT, r, hk, hZ, N, O, C, S⟩ := H
  obtain ⟨T', X', e', st⟩ := initO X hx hZ (own_found r hown) w1 w2 w3 eT hg hsize hs hd hf hW hl
  exact Go.of st (K T' ⟨hE, vm0, locs, k0, X', e', r, hk, hZ, N, O, C, S⟩)
theorem own_ldcI (H : Wk p l e R s m args below meth c Z EL a0 w T h k n sf) (hx : p.tables.exec = Jvm.exec) {own : String} {index : Nat} {v : Int32} (hown : s.vm.findClass own = some m.cls) (wc : (Cond.constant own index v).before a0 Z = true) {g : JFrame} (hg : g.method = m) (hd : decode c.code g.pc = .ok (.ldc index, 2))
    (K : Go p e below Φ T { g with pc := g.pc + 2, stack := .int v :: g.stack }) : Go p e below Φ T g := by
  obtain ⟨hE, vm0, locs, k0, X, eT, r, hk, hZ, N, O, C, S⟩ := H
  exact Go.of (X.ldcInt hx (own_found r hown) (mvT hZ wc) hg hd) K
theorem own_len (H : Wk p l e R s m args below meth c Z EL a0 w T h k n sf) (hx : p.tables.exec = Jvm.exec) {a : Addr} {kA : ClassId} {ty : FieldType} {z : Int32} {vs : List Value} {d : Value} (V : Arv Z h a kA ty z vs d) {g : JFrame} (hg : g.method = m) {rest : List Value} (hs : g.stack = .ref a :: rest) (hd : decode c.code g.pc = .ok (.arraylength, 1))
    (K : Go p e below Φ T { g with pc := g.pc + 1, stack := .int z :: rest }) : Go p e below Φ T g := by
  obtain ⟨hE, vm0, locs, k0, X, eT, r, hk, hZ, N, O, C, S⟩ := H
  obtain ⟨cl, A, -, q, nz, -, -⟩ := V
  refine Go.of (fun t ht => X.arraylength hx (by rw [eT]; exact A.1) (State.isArrayOf_alike hZ.alike A.2.1) hg hs hd t ?_) K
  rw [len_of q nz]; exact ht
theorem own_ld {op : Instr} {ty : FieldType} (law : ∀ {s T : State} {locs : List Loc} {a : Addr} {cell : Cell} {j : Int32} {v : Value} {k n : Nat} (X : Stand p l e R s m args below meth c T locs k n) (hcell : T.heap[a]? = some cell) (harr : s.isArrayOf cell ty) (hknown : cell.vm ≠ .unknown) (hin : ¬ (j < 0 ∨ cell.slots.size ≤ j.toNatClampNeg)) (hv : cell.slots[j.toNatClampNeg]? = some v) {g : JFrame} (hg : g.method = m) {rest : List Value} (hs : g.stack = .int j :: .ref a :: rest) (hd : decode c.code g.pc = .ok (op, 1)) (target : State), Steps p.tables e below (T.setTop { g with pc := g.pc + 1, stack := v :: rest }) target → Steps p.tables e below (T.setTop g) target)
    (H : Wk p l e R s m args below meth c Z EL a0 w T h k n sf) {a : Addr} {kA : ClassId} {z j : Int32} {vs : List Value} {d v : Value} (V : Arv Z h a kA ty z vs d) (hj : ¬ j < 0 ∧ j < z) (hv : vs.getD j.toNatClampNeg d = v) {g : JFrame} (hg : g.method = m) {rest : List Value} (hs : g.stack = .int j :: .ref a :: rest) (hd : decode c.code g.pc = .ok (op, 1))
    (K : Go p e below Φ T { g with pc := g.pc + 1, stack := v :: rest }) : Go p e below Φ T g := by
  obtain ⟨hE, vm0, locs, k0, X, eT, r, hk, hZ, N, O, C, S⟩ := H
  obtain ⟨cl, A, -, q, nz, Hs, -⟩ := V
  exact Go.of (law X (by rw [eT]; exact A.1) (State.isArrayOf_alike hZ.alike A.2.1) A.2.2 (inb_of q hj) (Hs.at (inb_of q hj) hv) hg hs hd) K
theorem own_caload (H : Wk p l e R s m args below meth c Z EL a0 w T h k n sf) (hx : p.tables.exec = Jvm.exec) {a : Addr} {kA : ClassId} {z j : Int32} {vs : List Value} {d v : Value} (V : Arv Z h a kA .char z vs d) (hj : ¬ j < 0 ∧ j < z) (hv : vs.getD j.toNatClampNeg d = v) {g : JFrame} (hg : g.method = m) {rest : List Value} (hs : g.stack = .int j :: .ref a :: rest) (hd : decode c.code g.pc = .ok (.caload, 1))
    (K : Go p e below Φ T { g with pc := g.pc + 1, stack := v :: rest }) : Go p e below Φ T g := own_ld (fun {_ _ _ _ _ _ _ _ _} X h1 h2 h3 h4 h5 {_} hg {_} hs hd t k => X.caload hx h1 h2 h3 h4 h5 hg hs hd t k) H V hj hv hg hs hd K
theorem own_baload (H : Wk p l e R s m args below meth c Z EL a0 w T h k n sf) (hx : p.tables.exec = Jvm.exec) {a : Addr} {kA : ClassId} {z j : Int32} {vs : List Value} {d v : Value} (V : Arv Z h a kA .byte z vs d) (hj : ¬ j < 0 ∧ j < z) (hv : vs.getD j.toNatClampNeg d = v) {g : JFrame} (hg : g.method = m) {rest : List Value} (hs : g.stack = .int j :: .ref a :: rest) (hd : decode c.code g.pc = .ok (.baload, 1))
    (K : Go p e below Φ T { g with pc := g.pc + 1, stack := v :: rest }) : Go p e below Φ T g := own_ld (fun {_ _ _ _ _ _ _ _ _} X h1 h2 h3 h4 h5 {_} hg {_} hs hd t k => X.baloadBytes hx h1 h2 h3 h4 h5 hg hs hd t k) H V hj hv hg hs hd K
theorem own_aaload (H : Wk p l e R s m args below meth c Z EL a0 w T h k n sf) (hx : p.tables.exec = Jvm.exec) {a : Addr} {kA : ClassId} {ty : FieldType} {z j : Int32} {vs : List Value} {d v : Value} (V : Arv Z h a kA ty z vs d) (hty : ty.isReference = true) (hj : ¬ j < 0 ∧ j < z) (hv : vs.getD j.toNatClampNeg d = v) {g : JFrame} (hg : g.method = m) {rest : List Value} (hs : g.stack = .int j :: .ref a :: rest) (hd : decode c.code g.pc = .ok (.aaload, 1))
    (K : Go p e below Φ T { g with pc := g.pc + 1, stack := v :: rest }) : Go p e below Φ T g := own_ld (fun {_ _ _ _ _ _ _ _ _} X h1 h2 h3 h4 h5 {_} hg {_} hs hd t k => X.aaload hx h1 h2 hty h3 h4 h5 hg hs hd t k) H V hj hv hg hs hd K
theorem own_castore (H : Wk p l e R s m args below meth c Z EL a0 w T h k n sf) (hx : p.tables.exec = Jvm.exec) {a : Addr} {kA : ClassId} {z j x : Int32} {vs : List Value} {d : Value} (V : Arv Z h a kA .char z vs d) (hj : ¬ j < 0 ∧ j < z) (i : Nat) (hi : j.toNatClampNeg = i) (hl : i < vs.length) (ha : Z.heap.size ≤ a) {g : JFrame} (hg : g.method = m) {rest : List Value} (hs : g.stack = .int x :: .int j :: .ref a :: rest) (hd : decode c.code g.pc = .ok (.castore, 1))
    (K : ∀ T' h', Wk p l e R s m args below meth c Z EL a0 w T' h' k n sf → Wr h h' a j.toNatClampNeg (.int (nar .char x)) → Arv Z h' a kA .char z (vs.set i (.int (nar .char x))) d → Go p e below Φ T' { g with pc := g.pc + 1, stack := rest }) : Go p e below Φ T g := by
  have hsw : own_sw Z EL sf h a := own_arr V (by simp)
  obtain ⟨hE, vm0, locs, k0, X, eT, r, hk, hZ, N, O, C, S⟩ := H
  obtain ⟨cl, A, q1, q, nz, Hs, G⟩ := V
  obtain ⟨T', h', X', e', W, st⟩ := stC X hx hZ eT A (inb_of q hj) hg hs hd
  exact Go.of st (K T' h' (own_wrote hE X' e' W r hk hZ N O C S ha hsw) W (Arv.set A q1 q nz Hs G (fits_nar_char _) W i hi hl))
theorem own_bastore (H : Wk p l e R s m args below meth c Z EL a0 w T h k n sf) (hx : p.tables.exec = Jvm.exec) {a : Addr} {kA : ClassId} {z j x : Int32} {vs : List Value} {d : Value} (V : Arv Z h a kA .byte z vs d) (hj : ¬ j < 0 ∧ j < z) (i : Nat) (hi : j.toNatClampNeg = i) (hl : i < vs.length) (ha : Z.heap.size ≤ a) (hsw : own_sw Z EL sf h a) {g : JFrame} (hg : g.method = m) {rest : List Value} (hs : g.stack = .int x :: .int j :: .ref a :: rest) (hd : decode c.code g.pc = .ok (.bastore, 1))
    (K : ∀ T' h', Wk p l e R s m args below meth c Z EL a0 w T' h' k n sf → Wr h h' a j.toNatClampNeg (.int (nar .byte x)) → Arv Z h' a kA .byte z (vs.set i (.int (nar .byte x))) d → Go p e below Φ T' { g with pc := g.pc + 1, stack := rest }) : Go p e below Φ T g := by
  obtain ⟨hE, vm0, locs, k0, X, eT, r, hk, hZ, N, O, C, S⟩ := H
  obtain ⟨cl, A, q1, q, nz, Hs, G⟩ := V
  obtain ⟨T', h', X', e', W, st⟩ := stB X hx hZ eT A (inb_of q hj) hg hs hd
  exact Go.of st (K T' h' (own_wrote hE X' e' W r hk hZ N O C S ha hsw) W (Arv.set A q1 q nz Hs G (fits_nar_byte _) W i hi hl))
theorem own_aastore (H : Wk p l e R s m args below meth c Z EL a0 w T h k n sf) (hx : p.tables.exec = Jvm.exec) {a : Addr} {kA : ClassId} {C : String} {z j : Int32} {v : Value} {vs : List Value} {d : Value} (V : Arv Z h a kA (.object C) z vs d) (hj : ¬ j < 0 ∧ j < z) (i : Nat) (hi : j.toNatClampNeg = i) (hl : i < vs.length) (F : Sto Z h a v) (hf : v.isRef = true) (ha : Z.heap.size ≤ a) {g : JFrame} (hg : g.method = m) {rest : List Value} (hs : g.stack = v :: .int j :: .ref a :: rest) (hd : decode c.code g.pc = .ok (.aastore, 1))
    (K : ∀ T' h', Wk p l e R s m args below meth c Z EL a0 w T' h' k n sf → Wr h h' a j.toNatClampNeg v → Arv Z h' a kA (.object C) z (vs.set i v) d → Go p e below Φ T' { g with pc := g.pc + 1, stack := rest }) : Go p e below Φ T g := by
  have hsw : own_sw Z EL sf h a := own_arr V (by simp)
  obtain ⟨hE, vm0, locs, k0, X, eT, r, hk, hZ, N, O, C, S⟩ := H
  obtain ⟨cl, A, q1, q, nz, Hs, G⟩ := V
  obtain ⟨T', h', X', e', W, st⟩ := stR X hx hZ eT A (inb_of q hj) rfl F hg hs hd
  exact Go.of st (K T' h' (own_wrote hE X' e' W r hk hZ N O C S ha hsw) W (Arv.set A q1 q nz Hs G (by rcases ref_cases hf with rfl | ⟨_, rfl⟩ <;> rfl) W i hi hl))
theorem own_cast (H : Wk p l e R s m args below meth c Z EL a0 w T h k n sf) (hx : p.tables.exec = Jvm.exec) {own K0 : String} {index : Nat} (hown : s.vm.findClass own = some m.cls) (wd : (Cond.classLink own index K0).before a0 Z = true) {a : Addr} (F : Ins Z h a K0 true) {g : JFrame} (hg : g.method = m) {rest : List Value} (hs : g.stack = .ref a :: rest) (hd : decode c.code g.pc = .ok (.checkcast index, 3))
    (K : ∀ T', Wk p l e R s m args below meth c Z EL a0 w T' h k n sf → Go p e below Φ T' { g with pc := g.pc + 3 }) : Go p e below Φ T g := by
  obtain ⟨hE, vm0, locs, k0, X, eT, r, hk, hZ, N, O, C, S⟩ := H
  obtain ⟨T', X', e', st⟩ := castY X hx hZ (own_found r hown) wd eT F hg hs hd
  exact Go.of st (K T' ⟨hE, vm0, locs, k0, X', e', r, hk, hZ, N, O, C, S⟩)
theorem own_inst (H : Wk p l e R s m args below meth c Z EL a0 w T h k n sf) (hx : p.tables.exec = Jvm.exec) {own K0 : String} {index : Nat} (hown : s.vm.findClass own = some m.cls) (wd : (Cond.classLink own index K0).before a0 Z = true) {a : Addr} (F : Ins Z h a K0 true) {g : JFrame} (hg : g.method = m) {rest : List Value} (hs : g.stack = .ref a :: rest) (hd : decode c.code g.pc = .ok (.instanceof index, 3))
    (K : ∀ T', Wk p l e R s m args below meth c Z EL a0 w T' h k n sf → Go p e below Φ T' { g with pc := g.pc + 3, stack := .int 1 :: rest }) : Go p e below Φ T g := by
  obtain ⟨hE, vm0, locs, k0, X, eT, r, hk, hZ, N, O, C, S⟩ := H
  obtain ⟨T', X', e', st⟩ := instY X hx hZ (own_found r hown) wd eT F hg hs hd
  exact Go.of st (K T' ⟨hE, vm0, locs, k0, X', e', r, hk, hZ, N, O, C, S⟩)
/-- behind a literal or a call that may intern -/
theorem own_past {vm0 : Vm} {k1 : Nat} {T' : State} {h' : Heap} {locs' : List Loc} {k' n' : Nat} (hE : EW Z a0 EL) (X' : Stand p l e R (s.setVm T'.vm) m args below meth c T' locs' k' n') (e' : T'.heap = h') (r : s.Since T'.vm k1) (hk : k1 ≤ h'.size) (hZ : Z.Warmed39 T'.vm) (N : Fr Z.heap.size locs') (O : Ext Z.heap h') (C : CHr Z EL s.vm s.heap vm0 h) (C' : CHr Z EL vm0 h T'.vm h') (S : ∀ x ∈ sf, x < h.size ∧ Safe Z EL vm0 h x) :
    Wk p l e R s m args below meth c Z EL a0 true T' h' k' n' sf :=
  ⟨hE, T'.vm, _, k1, X', e', r, hk, hZ, N, O, C.trans C', fun x hx => ⟨Nat.lt_of_lt_of_le (S x hx).1 C'.2.1, C'.safe (S x hx).1 (S x hx).2⟩⟩
theorem own_ldcS (H : Wk p l e R s m args below meth c Z EL a0 true T h k n sf) (hx : p.tables.exec = Jvm.exec) {own text : String} {index : Nat} (hown : s.vm.findClass own = some m.cls) (wd : (Cond.stringLink own index text).before a0 Z = true) (wS : ∀ a ∈ Bundle.stringAtoms, a.before a0 Z = true) (hmem : (own, index) ∈ EL)
    {vs : List Value} {z : Int32} (ht : (∀ c ∈ text.toList, c.toNat < 256) ∧ text.toList.map (fun c => Value.int (Jvm.Lit.byteI c.toNat.toUInt16)) = vs) (hz : ¬ z < 0) (hl : z.toNatClampNeg = vs.length)
    {g : JFrame} (hg : g.method = m) (hd : decode c.code g.pc = .ok (.ldc index, 2)) {nn : Nat} (hn : 4 * text.toList.length ≤ nn) (hbig : nn ≤ 536870912) (hc : k + 2 ≤ R.cells) (hl' : n + (nn + 4) ≤ R.slots)
    (K : ∀ T' h' a b kb, Wk p l e R s m args below meth c Z EL a0 true T' h' (k + 2) (n + (nn + 4)) sf → Ext h h' → Exa Z h' a "java/lang/String" → Fld Z h' a "java/lang/String" "coder" "B" (.int 0) → Fld Z h' a "java/lang/String" "value" "[B" (.ref b) → Arv Z h' b kb .byte z vs (.int 0) → (∀ x ∈ sf, x ≠ a ∧ x ≠ b) → Go p e below Φ T' { g with pc := g.pc + 2, stack := .ref a :: g.stack }) : Go p e below Φ T g := by
  obtain ⟨hE, vm0, locs, k0, X, eT, r, hk, hZ, N, O, C, S⟩ := H
  obtain ⟨a, T', h', k1, b, kb, X', e', E, r', hk', hZ', hf', E1, F1, F2, V, -, -, C', -, hne, st⟩ := ldcCH X hx hZ (own_found r hown) wd wS eT r hk hE hmem C.1 ht hz hl hg hd hn hbig hc hl'
  have H' : Wk p l e R s m args below meth c Z EL a0 true T' h' (k + 2) (n + (nn + 4)) sf := own_past hE X' e' r' hk' hZ' N (Old.ext ⟨rfl, O⟩ E).2 C C' S
  exact Go.of st (K T' h' a b kb H' E E1 F1 F2 V fun x hx => hne x (C'.safe (S x hx).1 (S x hx).2))
theorem own_ldcO (H : Wk p l e R s m args below meth c Z EL a0 true T h k n sf) (hx : p.tables.exec = Jvm.exec) {own text : String} {index : Nat} (hown : s.vm.findClass own = some m.cls) (wd : (Cond.stringLink own index text).before a0 Z = true) (wS : ∀ a ∈ Bundle.stringAtoms, a.before a0 Z = true)
    {g : JFrame} (hg : g.method = m) (hd : decode c.code g.pc = .ok (.ldc index, 2)) {nn : Nat} (hn : 4 * text.toList.length ≤ nn) (hbig : nn ≤ 536870912) (hc : k + 2 ≤ R.cells) (hl' : n + (nn + 4) ≤ R.slots)
    (K : ∀ T' h' a, Wk p l e R s m args below meth c Z EL a0 true T' h' (k + 2) (n + (nn + 4)) sf → Ext h h' → Go p e below Φ T' { g with pc := g.pc + 2, stack := .ref a :: g.stack }) : Go p e below Φ T g := by
  obtain ⟨hE, vm0, locs, k0, X, eT, r, hk, hZ, N, O, C, S⟩ := H
  obtain ⟨a, T', h', k1, X', e', E, r', hk', hZ', hf', C', -, st⟩ := ldcOH X hx hZ (own_found r hown) wd wS eT r hk hE C.1 hg hd hn hbig hc hl'
  exact Go.of st (K T' h' a (own_past hE X' e' r' hk' hZ' N (Old.ext ⟨rfl, O⟩ E).2 C C' S) E)
/-! returns -/
theorem own_leave (H : Wk p l e R s m args below meth c Z EL a0 w T h k n sf) {v : Option Value} {Q : Option Value → Heap → Prop} (hl : meth.locks = false) (hv : meth.sig.returnType = none → v = none) (q : Q v h) (hk : k ≤ R.cells) (hn : n ≤ R.slots) {g : JFrame}
    (st : ∀ {locs : List Loc} {s' : State} (X : Stand p l e R s' m args below meth c T locs k n) {fs : List Frame}, (∀ (f : JFrame) (acts : List Action), f.method = m → f.locked = none → f.entered = [] → (doReturn e (T.setTop f) acts v).1 = T.setFrames fs) → Steps p.tables e below (T.setTop g) (T.setFrames fs)) :
    Go p e below (own_fin Z EL w s below Q R.cells R.slots) T g := by
  obtain ⟨hE, vm0, locs, k0, X, eT, r, hk0, hZ, N, O, C, S⟩ := H
  have CU : CHr Z EL s.vm s.heap T.vm T.heap := by rw [eT]; exact C.trans (CHv.at X hZ hE C.1)
  cases w
  · have r : vm0 = s.vm := r
    subst r
    obtain ⟨fs, hr, hrun, hended, hW, hsame⟩ := X.leave hv hl
    exact ⟨_, st X hr, _, hrun, hended, v, locs, rfl, ⟨N, by show Ext Z.heap T.heap; rw [eT]; exact O, by show Q v T.heap; rw [eT]; exact q⟩, CU, ⟨⟨v, rfl⟩, hW, hsame.mono hk hn⟩⟩
  · obtain ⟨fs, hr, hrun, hended, hend⟩ := X.leaveW r (by rw [eT]; exact hk0) hv hl
    exact ⟨_, st X hr, _, hrun, hended, v, locs, rfl, ⟨N, by show Ext Z.heap T.heap; rw [eT]; exact O, by show Q v T.heap; rw [eT]; exact q⟩, CU, ⟨hend.1, hend.2.1, hend.2.2.1, hend.2.2.2.mono hk hn⟩⟩
theorem own_retI (H : Wk p l e R s m args below meth c Z EL a0 w T h k n sf) (hx : p.tables.exec = Jvm.exec) (hl : meth.locks = false) (hret : meth.sig.returnType = some .int) {pc : Nat} {Ls : Array Slot} {z : Int32} {rest : List Value} {Q : Option Value → Heap → Prop} (hd : decode c.code pc = .ok (.ireturn, 1)) (q : Q (some (.int z)) h) (hk : k ≤ R.cells) (hn : n ≤ R.slots) :
    Go p e below (own_fin Z EL w s below Q R.cells R.slots) T (mkF m pc Ls (.int z :: rest)) :=
  own_leave H hl (fun h => by rw [hret] at h; cases h) q hk hn fun {_ _} X {_} hr => retI X hx hret hd hr
theorem own_retN (H : Wk p l e R s m args below meth c Z EL a0 w T h k n sf) (hx : p.tables.exec = Jvm.exec) (hl : meth.locks = false) {t : FieldType} (hret : meth.sig.returnType = some t) (ht : t = .boolean ∨ t = .byte ∨ t = .char ∨ t = .short) {pc : Nat} {Ls : Array Slot} {z : Int32} {rest : List Value} {Q : Option Value → Heap → Prop} (hd : decode c.code pc = .ok (.ireturn, 1)) (q : Q (some (.int (nar t z))) h) (hk : k ≤ R.cells) (hn : n ≤ R.slots) :
    Go p e below (own_fin Z EL w s below Q R.cells R.slots) T (mkF m pc Ls (.int z :: rest)) :=
  own_leave H hl (fun h => by rw [hret] at h; cases h) q hk hn fun {_ _} X {_} hr => retN X hx hret ht hd hr
theorem own_ret (H : Wk p l e R s m args below meth c Z EL a0 w T h k n sf) (hx : p.tables.exec = Jvm.exec) (hl : meth.locks = false) (hret : meth.sig.returnType = none) {pc : Nat} {Ls : Array Slot} {Q : Option Value → Heap → Prop} (hd : decode c.code pc = .ok (.return_, 1)) (q : Q none h) (hk : k ≤ R.cells) (hn : n ≤ R.slots) :
    Go p e below (own_fin Z EL w s below Q R.cells R.slots) T (mkF m pc Ls []) :=
  own_leave H hl (fun _ => rfl) q hk hn fun {_ _} X {_} hr => X.returnOut hx hret hd hr
theorem own_retA_step {locs : List Loc} (X : Stand p l e R s m args below meth c T locs k n) (hx : p.tables.exec = Jvm.exec) {t : FieldType} (hret : meth.sig.returnType = some t) (ht : t.isReference = true) {pc : Nat} {Ls : Array Slot} {v : Value} (hv : v.isRef = true) {rest : List Value} (hd : decode c.code pc = .ok (.areturn, 1)) {fs : List Frame}
    (hr : ∀ (f : JFrame) (acts : List Action), f.method = m → f.locked = none → f.entered = [] → (doReturn e (T.setTop f) acts (some v)).1 = T.setFrames fs) : Steps p.tables e below (T.setTop (mkF m pc Ls (v :: rest))) (T.setFrames fs) := by
  have hm' : T.vm.method? m = some meth := X.method'
  show Steps p.tables e below (T.setTop { method := m, pc := pc, locals := Ls, stack := _ :: rest, locked := none }) _
  jvm_step X.here [X.here.top, hx, hd, hm', hret, hv, ht]
  first | (intro acts; rw [hr _ acts rfl rfl rfl]) | rw [hr _ _ rfl rfl rfl]
  exact Steps.refl _
theorem own_retA (H : Wk p l e R s m args below meth c Z EL a0 w T h k n sf) (hx : p.tables.exec = Jvm.exec) (hl : meth.locks = false) {t : FieldType} (hret : meth.sig.returnType = some t) (ht : t.isReference = true) {pc : Nat} {Ls : Array Slot} {v : Value} (hv : v.isRef = true) {rest : List Value} {Q : Option Value → Heap → Prop} (hd : decode c.code pc = .ok (.areturn, 1)) (q : Q (some v) h) (hk : k ≤ R.cells) (hn : n ≤ R.slots) :
    Go p e below (own_fin Z EL w s below Q R.cells R.slots) T (mkF m pc Ls (v :: rest)) :=
  own_leave H hl (fun h => by rw [hret] at h; cases h) q hk hn fun {_ _} X {_} hr => own_retA_step X hx hret ht hv hd hr
/-! calls that a law of the library pays (Back), or a narrow contract -/
theorem own_kept {vm0 : Vm} {locs L : List Loc} {k0 : Nat} {kc kn : Nat} {B : Pt} {ws : List Addr} (hE : EW Z a0 EL) (X' : Stand p l e R (s.setVm vm0) m args below meth c B.U B.locs B.cells B.slots) (r : own_rel w s vm0 k0) (hk : k0 ≤ h.size) (hZ : Z.Warmed39 vm0) (N : Fr Z.heap.size locs) (O : Ext Z.heap h) (C : CHr Z EL s.vm s.heap vm0 h) (S : ∀ x ∈ sf, x < h.size ∧ Safe Z EL vm0 h x)
    (hL : Fr Z.heap.size L) (Kp : Keep h B.U.heap ws) (hws : ∀ x ∈ ws, Z.heap.size ≤ x ∧ own_sw Z EL sf h x) (el : B.locs = locs ++ L) (ek : B.cells = k + kc) (en : B.slots = n + kn) : Wk p l e R s m args below meth c Z EL a0 w B.U B.U.heap (k + kc) (n + kn) sf := by
  have hs : ∀ x ∈ ws, Safe Z EL vm0 h x := fun x hx => (hws x hx).2.safe hZ.alike S
  refine ⟨hE, vm0, locs ++ L, k0, by rw [← el, ← ek, ← en]; exact X', rfl, r, Nat.le_trans hk Kp.1, hZ, Fr.app N hL, (Old.keep ⟨rfl, O⟩ Kp fun x hx => (hws x hx).1).2, C.trans (CHr.keep Kp hs C.1), fun x hx => ⟨Nat.lt_of_lt_of_le (S x hx).1 Kp.1, (S x hx).2.keep Kp hs C.1⟩⟩
theorem own_staticB (H : Wk p l e R s m args below meth c Z EL a0 w T h k n sf) (hx : p.tables.exec = Jvm.exec) {own : String} {index : Nat} {y : MethodName} {bytes : ByteArray} {maxL : Nat} {ret : Option FieldType} (hown : s.vm.findClass own = some m.cls) (w1 : (Cond.methodLink own index y).before a0 Z = true) (w2 : (Cond.static y).before a0 Z = true) (w3 : (Cond.initialized y.cls).before a0 Z = true) (w4 : (Cond.code y bytes maxL ret).before a0 Z = true)
    (hy : y.cls ≠ "java/lang/invoke/MethodHandle" ∧ y.cls ≠ "java/lang/invoke/VarHandle") {W kc kn : Nat} {as' : Array Value} (Q : Option Value → Heap → List Loc → Prop)
    (hB : ∀ vm0, Z.Warmed39 vm0 → CHv Z EL vm0 h → Back l R p e below (s.setVm vm0) args y 3 W (fun A a => a = as' ∧ A.U.heap = h ∧ A.cells + kc ≤ R.cells ∧ A.slots + kn ≤ R.slots) (fun A _ v B => ∃ L, Q v B.U.heap L ∧ B.locs = A.locs ++ L ∧ B.cells = A.cells + kc ∧ B.slots = A.slots + kn))
    {ws : List Addr} (hq : ∀ v h' L, Q v h' L → Fr Z.heap.size L ∧ Keep h h' ws) (hws : ∀ x ∈ ws, Z.heap.size ≤ x ∧ own_sw Z EL sf h x)
    {g : JFrame} (hg : g.method = m) (hsize : g.locals.size = c.maxLocals) {argsL rest : List Value} (has : argsL.toArray = as') (hlen : ∀ sig, parseMethodDescriptor y.desc = some sig → argsL.length = sig.parameters.length) (hstack : g.stack = argsL.reverse ++ rest) (hW : 2 * g.monitorRoom + (rest.map fun v => v.category).sum ≤ W) (hd : decode c.code g.pc = .ok (.invokestatic index, 3)) (hc : k + kc ≤ R.cells) (hn : n + kn ≤ R.slots)
    (K : ∀ T' h' v L, Wk p l e R s m args below meth c Z EL a0 w T' h' (k + kc) (n + kn) sf → Q v h' L → Go p e below Φ T' { g with pc := g.pc + 3, stack := v.toList ++ rest }) : Go p e below Φ T g := by
  obtain ⟨hE, vm0, locs, k0, X, eT, r, hk, hZ, N, O, C, S⟩ := H
  obtain ⟨v, vm1, B, hWm, X', ⟨L, hQ, el, ek, en⟩, st⟩ := Jvm.LawKit.callS X hx (own_found r hown) (mvT hZ w1) (mvT hZ w2) (mvT hZ w3) (mvT hZ w4) hy (hB vm0 hZ C.1) hg hsize hlen hstack hW hd fun _ _ => ⟨has, eT, hc, hn⟩
  obtain ⟨hL, Kp⟩ := hq _ _ _ hQ
  exact Go.of st (K B.U _ v L (own_kept hE X' r hk hZ N O C S hL Kp hws el ek en) hQ)
theorem own_specialB (H : Wk p l e R s m args below meth c Z EL a0 w T h k n sf) (hx : p.tables.exec = Jvm.exec) {own : String} {index : Nat} {y : MethodName} {bytes : ByteArray} {maxL : Nat} (hy1 : y.name = "<init>") (hown : s.vm.findClass own = some m.cls) (w1 : (Cond.methodLink own index y).before a0 Z = true) (w2 : (Cond.instanceMethod y).before a0 Z = true) (w4 : (Cond.code y bytes maxL none).before a0 Z = true)
    (hy : y.cls ≠ "java/lang/invoke/MethodHandle" ∧ y.cls ≠ "java/lang/invoke/VarHandle") {W kc kn : Nat} {as' : Array Value} (Q : Option Value → Heap → List Loc → Prop)
    (hB : ∀ vm0, Z.Warmed39 vm0 → CHv Z EL vm0 h → Back l R p e below (s.setVm vm0) args y 3 W (fun A a => a = as' ∧ A.U.heap = h ∧ A.cells + kc ≤ R.cells ∧ A.slots + kn ≤ R.slots) (fun A _ v B => ∃ L, Q v B.U.heap L ∧ B.locs = A.locs ++ L ∧ B.cells = A.cells + kc ∧ B.slots = A.slots + kn))
    {ws : List Addr} (hq : ∀ v h' L, Q v h' L → Fr Z.heap.size L ∧ Keep h h' ws) (hws : ∀ x ∈ ws, Z.heap.size ≤ x ∧ own_sw Z EL sf h x)
    {g : JFrame} (hg : g.method = m) (hsize : g.locals.size = c.maxLocals) {a : Addr} {argsL rest : List Value} (has : (.ref a :: argsL).toArray = as') (hlen : ∀ sig, parseMethodDescriptor y.desc = some sig → argsL.length = sig.parameters.length) (hstack : g.stack = argsL.reverse ++ .ref a :: rest) (hW : 2 * g.monitorRoom + (rest.map fun v => v.category).sum ≤ W) (hd : decode c.code g.pc = .ok (.invokespecial index, 3)) (hc : k + kc ≤ R.cells) (hn : n + kn ≤ R.slots)
    (K : ∀ T' h' v L, Wk p l e R s m args below meth c Z EL a0 w T' h' (k + kc) (n + kn) sf → Q v h' L → Go p e below Φ T' { g with pc := g.pc + 3, stack := v.toList ++ rest }) : Go p e below Φ T g := by
  obtain ⟨hE, vm0, locs, k0, X, eT, r, hk, hZ, N, O, C, S⟩ := H
  obtain ⟨v, vm1, B, hWm, X', ⟨L, hQ, el, ek, en⟩, st⟩ := X.specialBack hx hy1 (own_found r hown) (mvT hZ w1) (mvT hZ w2) (mvT hZ w4) hy (hB vm0 hZ C.1) hg hsize (Steps.refl _) hlen hstack hW hd fun _ _ => ⟨has, eT, hc, hn⟩
  obtain ⟨hL, Kp⟩ := hq _ _ _ hQ
  exact Go.by st (K B.U _ v L (own_kept hE X' r hk hZ N O C S hL Kp hws el ek en) hQ)
theorem own_virtualB (H : Wk p l e R s m args below meth c Z EL a0 w T h k n sf) (hx : p.tables.exec = Jvm.exec) {own C : String} {index : Nat} {y z : MethodName} (hown : s.vm.findClass own = some m.cls) (w1 : (Cond.methodLink own index y).before a0 Z = true) (w2 : (Cond.declares y).before a0 Z = true) (w3 : (Cond.selects C y z).before a0 Z = true) (hnf : y = z) (w4 : (Cond.instanceMethod z).before a0 Z = true)
    (hy : y.cls ≠ "java/lang/invoke/MethodHandle" ∧ y.cls ≠ "java/lang/invoke/VarHandle") {W kc kn : Nat} {as' : Array Value} (Q : Option Value → Heap → List Loc → Prop)
    (hB : ∀ vm0, Z.Warmed39 vm0 → CHv Z EL vm0 h → Back l R p e below (s.setVm vm0) args z 3 W (fun A a => a = as' ∧ A.U.heap = h ∧ A.cells + kc ≤ R.cells ∧ A.slots + kn ≤ R.slots) (fun A _ v B => ∃ L, Q v B.U.heap L ∧ B.locs = A.locs ++ L ∧ B.cells = A.cells + kc ∧ B.slots = A.slots + kn))
    {ws : List Addr} (hq : ∀ v h' L, Q v h' L → Fr Z.heap.size L ∧ Keep h h' ws) (hws : ∀ x ∈ ws, Z.heap.size ≤ x ∧ own_sw Z EL sf h x)
    {b : Addr} (E : Exa Z h b C) {g : JFrame} (hg : g.method = m) (hsize : g.locals.size = c.maxLocals) {argsL rest : List Value} (has : (.ref b :: argsL).toArray = as') (hlen : ∀ sig, parseMethodDescriptor y.desc = some sig → argsL.length = sig.parameters.length) (hstack : g.stack = argsL.reverse ++ .ref b :: rest) (hW : 2 * g.monitorRoom + (rest.map fun v => v.category).sum ≤ W) (hd : decode c.code g.pc = .ok (.invokevirtual index, 3)) (hc : k + kc ≤ R.cells) (hn : n + kn ≤ R.slots)
    (K : ∀ T' h' v L, Wk p l e R s m args below meth c Z EL a0 w T' h' (k + kc) (n + kn) sf → Q v h' L → Go p e below Φ T' { g with pc := g.pc + 3, stack := v.toList ++ rest }) : Go p e below Φ T g := by
  subst hnf
  obtain ⟨hE, vm0, locs, k0, X, eT, r, hk, hZ, N, O, C, S⟩ := H
  obtain ⟨cq, kq, qa, qb, qc⟩ := isOf (s := s.setVm vm0) hZ eT E
  obtain ⟨v, vm1, B, hWm, X', ⟨L, hQ, el, ek, en⟩, st⟩ := X.virtualBack hx (own_found r hown) (mvT hZ w1) (mvT hZ w2) (notFace_of_selects (args := #[]) (mvT hZ w3)) (mvT hZ w3) (mvT hZ w4) hy (hB vm0 hZ C.1) qa qc hg hsize (Steps.refl _) hlen hstack hW hd fun _ _ => ⟨has, eT, hc, hn⟩
  obtain ⟨hL, Kp⟩ := hq _ _ _ hQ
  exact Go.by st (K B.U _ v L (own_kept hE X' r hk hZ N O C S hL Kp hws el ek en) hQ)
/-- a narrow contract at a call -/
theorem own_backN {y : MethodName} {bytes : ByteArray} {maxL : Nat} {ret : Option FieldType} {rm : Room} {len W : Nat} {as' : Array Value} {vm0 : Vm} {Q : Option Value → Heap → Prop} (hM : Ct l Z [] a0 false y bytes maxL ret [] rm as' h [] Q)
    (wc : (Cond.code y bytes maxL ret).before a0 Z = true) (wz : (Cond.initialized y.cls).before a0 Z = true) (hf : rm.frames + 1 ≤ R.frames) (hl : W + (maxL + 11) + rm.locals ≤ R.locals) (hZ : Z.Warmed39 vm0) :
    Back l R p e below (s.setVm vm0) args y len W (fun A a => a = as' ∧ A.U.heap = h ∧ A.cells + rm.cells ≤ R.cells ∧ A.slots + rm.slots ≤ R.slots) (fun A _ v B => ∃ L, (Fr Z.heap.size L ∧ Ext Z.heap B.U.heap ∧ Q v B.U.heap) ∧ B.locs = A.locs ++ L ∧ B.cells = A.cells + rm.cells ∧ B.slots = A.slots + rm.slots) := by
  refine backOf (s := s.setVm vm0) (Q := fun v h' L => Fr Z.heap.size L ∧ Ext Z.heap h' ∧ Q v h') ?_ hZ wc wz hf hl
  intro p e ha hc hk s m args below hf happ hP hK
  obtain ⟨n, o, h1, h2, h3, v, L, rfl, r, -, q⟩ := hM p e ha hc hk s m args below hf happ ⟨hP.1, hP.2.1, hP.2.2, (fun _ hq => nomatch hq), (fun _ hq => nomatch hq)⟩ hK
  exact ⟨n, _, h1, h2, h3, v, L, rfl, r, q⟩
/-! calls of a callee that may intern -/
theorem own_backW {y : MethodName} {bytes : ByteArray} {maxL : Nat} {ret : Option FieldType} {rm : Room} {len W : Nat} {as' : Array Value} {sfc : List Addr} {vm0 : Vm} {Q : Option Value → Heap → Prop} (hM : Ct l Z EL a0 true y bytes maxL ret [] rm as' h sfc Q)
    (wc : (Cond.code y bytes maxL ret).before a0 Z = true) (wz : (Cond.initialized y.cls).before a0 Z = true) (hf : rm.frames + 1 ≤ R.frames) (hl : W + (maxL + 11) + rm.locals ≤ R.locals) (hZ : Z.Warmed39 vm0) (hE : EW Z a0 EL) (H : CHv Z EL vm0 h) (S : ∀ x ∈ sfc, x < h.size ∧ Safe Z EL vm0 h x) :
    BackS l R p e below (s.setVm vm0) args y len W (fun A a => a = as' ∧ A.U.heap = h ∧ A.cells + rm.cells ≤ R.cells ∧ A.slots + rm.slots ≤ R.slots)
      (fun A _ v B => ∃ L, (Fr Z.heap.size L ∧ Ext Z.heap B.U.heap ∧ Q v B.U.heap) ∧ B.locs = A.locs ++ L ∧ B.cells = A.cells + rm.cells ∧ B.slots = A.slots + rm.slots ∧ CHr Z EL vm0 h B.U.vm B.U.heap) :=
  BackS.of_freeW (bytes := bytes) (maxL := maxL) (ret := ret) (E := fun _ first o t L k n => k = rm.cells ∧ n = rm.slots ∧ (∃ v, o = .returned v ∧ Fr Z.heap.size L ∧ Ext Z.heap t.heap ∧ Q v t.heap) ∧ CHr Z EL first.vm first.heap t.vm t.heap) hM hf hl
    (fun m meth c A a Y hp => have hU : Z.Warmed39 A.U.vm := wtrans (s := s.setVm vm0) hZ Y.warmed
      ⟨by show (Cond.and _ .tt).before a A.U = true; rw [Cond.before_and, mv hU wc]; rfl, mv hU wc, mv hU wz, hp.2.2.1, hp.2.2.2⟩)
    (fun m meth c A a g mk Y hp => have q := CHv.at Y hZ hE H
      ⟨hp.1, wtrans (s := s.setVm vm0) hZ Y.warmed, hp.2.1, q.1, fun x hx => ⟨(S x hx).1, q.safe (S x hx).1 (S x hx).2⟩⟩) (fun _ _ _ _ _ _ _ _ _ => trivial)
    (fun _ _ _ _ ⟨v, L, h1, h2, h3, h4⟩ => ⟨L, _, _, h4, rfl, rfl, ⟨v, h1, h2⟩, h3⟩)
    (fun m meth c A a g mk v t L k n Y hp _ _ ⟨e1, e2, ⟨v', e3, e4⟩, e5⟩ => by
      cases e3; subst e1 e2
      refine ⟨L, e4, rfl, rfl, rfl, (CHv.at Y hZ hE H).trans ?_⟩
      rw [← hp.2.1]; exact e5)
theorem own_wide {vm0 : Vm} {locs L : List Loc} {k0 : Nat} {kc kn : Nat} {B : Pt} (hE : EW Z a0 EL) (X' : Stand p l e R (s.setVm B.U.vm) m args below meth c B.U B.locs B.cells B.slots) (r : s.Since vm0 k0) (hk : k0 ≤ h.size) (eT : T.heap = h) (h2 : (s.setVm vm0).Since B.U.vm B.U.heap.size) (gr : T.heap.size ≤ B.U.heap.size) (hZ : Z.Warmed39 vm0) (N : Fr Z.heap.size locs) (C : CHr Z EL s.vm s.heap vm0 h) (S : ∀ x ∈ sf, x < h.size ∧ Safe Z EL vm0 h x)
    (hL : Fr Z.heap.size L) (O : Ext Z.heap B.U.heap) (el : B.locs = locs ++ L) (ek : B.cells = k + kc) (en : B.slots = n + kn) (C' : CHr Z EL vm0 h B.U.vm B.U.heap) : Wk p l e R s m args below meth c Z EL a0 true B.U B.U.heap (k + kc) (n + kn) sf := by
  refine own_past hE (by rw [← ek, ← en]; exact X') rfl (r.trans h2 (Nat.le_trans hk (by rw [← eT]; exact gr))) (Nat.le_refl _) (State.Warmed39.trans (t := s.setVm vm0) hZ h2.1) (by rw [el]; exact Fr.app N hL) O C C' S
theorem own_staticW (H : Wk p l e R s m args below meth c Z EL a0 true T h k n sf) (hx : p.tables.exec = Jvm.exec) {own : String} {index : Nat} {y : MethodName} {bytes : ByteArray} {maxL : Nat} {ret : Option FieldType} (hown : s.vm.findClass own = some m.cls) (w1 : (Cond.methodLink own index y).before a0 Z = true) (w2 : (Cond.static y).before a0 Z = true) (w3 : (Cond.initialized y.cls).before a0 Z = true) (w4 : (Cond.code y bytes maxL ret).before a0 Z = true)
    (hy : y.cls ≠ "java/lang/invoke/MethodHandle" ∧ y.cls ≠ "java/lang/invoke/VarHandle") {W : Nat} {rm : Room} {as' : Array Value} {sfc : List Addr} {Q : Option Value → Heap → Prop} (hM : Ct l Z EL a0 true y bytes maxL ret [] rm as' h sfc Q) (hsf : ∀ x ∈ sfc, x ∈ sf) (hf : rm.frames + 1 ≤ R.frames) (hl : W + (maxL + 11) + rm.locals ≤ R.locals)
    {g : JFrame} (hg : g.method = m) (hsize : g.locals.size = c.maxLocals) {argsL rest : List Value} (has : argsL.toArray = as') (hlen : ∀ sig, parseMethodDescriptor y.desc = some sig → argsL.length = sig.parameters.length) (hstack : g.stack = argsL.reverse ++ rest) (hW : 2 * g.monitorRoom + (rest.map fun v => v.category).sum ≤ W) (hd : decode c.code g.pc = .ok (.invokestatic index, 3)) (hc : k + rm.cells ≤ R.cells) (hn : n + rm.slots ≤ R.slots)
    (K : ∀ T' h' v, Wk p l e R s m args below meth c Z EL a0 true T' h' (k + rm.cells) (n + rm.slots) sf → h.size ≤ h'.size → Q v h' → Go p e below Φ T' { g with pc := g.pc + 3, stack := v.toList ++ rest }) : Go p e below Φ T g := by
  obtain ⟨hE, vm0, locs, k0, X, eT, r, hk, hZ, N, O, C, S⟩ := H
  obtain ⟨v, vm1, B, hWm, X', h2, gr, ⟨L, ⟨hL, O', hQ⟩, el, ek, en, C'⟩, st⟩ := callSS X hx (own_found r hown) (mvT hZ w1) (mvT hZ w2) (mvT hZ w3) (mvT hZ w4) hy (own_backW hM w4 w3 hf hl hZ hE C.1 fun x hx => S x (hsf x hx)) hg hsize hlen hstack hW hd fun _ _ => ⟨has, eT, hc, hn⟩
  exact Go.by st (K B.U _ v (own_wide hE X' r hk eT h2 gr hZ N C S hL O' el ek en C') C'.2.1 hQ)
theorem own_specialW (H : Wk p l e R s m args below meth c Z EL a0 true T h k n sf) (hx : p.tables.exec = Jvm.exec) {own : String} {index : Nat} {y : MethodName} {bytes : ByteArray} {maxL : Nat} (hy1 : y.name = "<init>") (hown : s.vm.findClass own = some m.cls) (w1 : (Cond.methodLink own index y).before a0 Z = true) (w2 : (Cond.instanceMethod y).before a0 Z = true) (w3 : (Cond.initialized y.cls).before a0 Z = true) (w4 : (Cond.code y bytes maxL none).before a0 Z = true)
    (hy : y.cls ≠ "java/lang/invoke/MethodHandle" ∧ y.cls ≠ "java/lang/invoke/VarHandle") {W : Nat} {rm : Room} {as' : Array Value} {sfc : List Addr} {Q : Option Value → Heap → Prop} (hM : Ct l Z EL a0 true y bytes maxL none [] rm as' h sfc Q) (hsf : ∀ x ∈ sfc, x ∈ sf) (hf : rm.frames + 1 ≤ R.frames) (hl : W + (maxL + 11) + rm.locals ≤ R.locals)
    {g : JFrame} (hg : g.method = m) (hsize : g.locals.size = c.maxLocals) {a : Addr} {argsL rest : List Value} (has : (.ref a :: argsL).toArray = as') (hlen : ∀ sig, parseMethodDescriptor y.desc = some sig → argsL.length = sig.parameters.length) (hstack : g.stack = argsL.reverse ++ .ref a :: rest) (hW : 2 * g.monitorRoom + (rest.map fun v => v.category).sum ≤ W) (hd : decode c.code g.pc = .ok (.invokespecial index, 3)) (hc : k + rm.cells ≤ R.cells) (hn : n + rm.slots ≤ R.slots)
    (K : ∀ T' h' v, Wk p l e R s m args below meth c Z EL a0 true T' h' (k + rm.cells) (n + rm.slots) sf → h.size ≤ h'.size → Q v h' → Go p e below Φ T' { g with pc := g.pc + 3, stack := v.toList ++ rest }) : Go p e below Φ T g := by
  obtain ⟨hE, vm0, locs, k0, X, eT, r, hk, hZ, N, O, C, S⟩ := H
  obtain ⟨v, vm1, B, hWm, X', h2, gr, ⟨L, ⟨hL, O', hQ⟩, el, ek, en, C'⟩, st⟩ := X.specialBackS hx hy1 (own_found r hown) (mvT hZ w1) (mvT hZ w2) (mvT hZ w4) hy (own_backW hM w4 w3 hf hl hZ hE C.1 fun x hx => S x (hsf x hx)) hg hsize (Steps.refl _) hlen hstack hW hd fun _ _ => ⟨has, eT, hc, hn⟩
  exact Go.by st (K B.U _ v (own_wide hE X' r hk eT h2 gr hZ N C S hL O' el ek en C') C'.2.1 hQ)
theorem own_virtualW (H : Wk p l e R s m args below meth c Z EL a0 true T h k n sf) (hx : p.tables.exec = Jvm.exec) {own C : String} {index : Nat} {y z : MethodName} {bytes : ByteArray} {maxL : Nat} {ret : Option FieldType} (hown : s.vm.findClass own = some m.cls) (w1 : (Cond.methodLink own index y).before a0 Z = true) (w2 : (Cond.declares y).before a0 Z = true) (hnf : ∀ vm0, Z.Warmed39 vm0 → NotFace (s.setVm vm0) y) (w3 : (Cond.selects C y z).before a0 Z = true) (w5 : (Cond.instanceMethod z).before a0 Z = true) (w6 : (Cond.initialized z.cls).before a0 Z = true) (w4 : (Cond.code z bytes maxL ret).before a0 Z = true)
    (hy : y.cls ≠ "java/lang/invoke/MethodHandle" ∧ y.cls ≠ "java/lang/invoke/VarHandle") {W : Nat} {rm : Room} {as' : Array Value} {sfc : List Addr} {Q : Option Value → Heap → Prop} (hM : Ct l Z EL a0 true z bytes maxL ret [] rm as' h sfc Q) (hsf : ∀ x ∈ sfc, x ∈ sf) (hf : rm.frames + 1 ≤ R.frames) (hl : W + (maxL + 11) + rm.locals ≤ R.locals)
    {b : Addr} (E : Exa Z h b C) {g : JFrame} (hg : g.method = m) (hsize : g.locals.size = c.maxLocals) {argsL rest : List Value} (has : (.ref b :: argsL).toArray = as') (hlen : ∀ sig, parseMethodDescriptor y.desc = some sig → argsL.length = sig.parameters.length) (hstack : g.stack = argsL.reverse ++ .ref b :: rest) (hW : 2 * g.monitorRoom + (rest.map fun v => v.category).sum ≤ W) (hd : decode c.code g.pc = .ok (.invokevirtual index, 3)) (hc : k + rm.cells ≤ R.cells) (hn : n + rm.slots ≤ R.slots)
    (K : ∀ T' h' v, Wk p l e R s m args below meth c Z EL a0 true T' h' (k + rm.cells) (n + rm.slots) sf → h.size ≤ h'.size → Q v h' → Go p e below Φ T' { g with pc := g.pc + 3, stack := v.toList ++ rest }) : Go p e below Φ T g := by
  obtain ⟨hE, vm0, locs, k0, X, eT, r, hk, hZ, N, O, C, S⟩ := H
  obtain ⟨cq, kq, qa, qb, qc⟩ := isOf (s := s.setVm vm0) hZ eT E
  obtain ⟨v, vm1, B, hWm, X', h2, gr, ⟨L, ⟨hL, O', hQ⟩, el, ek, en, C'⟩, st⟩ := X.virtualBackS hx (own_found r hown) (mvT hZ w1) (mvT hZ w2) (hnf vm0 hZ) (mvT hZ w3) (mvT hZ w5) hy (own_backW hM w4 w6 hf hl hZ hE C.1 fun x hx => S x (hsf x hx)) qa qc hg hsize (Steps.refl _) hlen hstack hW hd fun _ _ => ⟨has, eT, hc, hn⟩
  exact Go.by st (K B.U _ v (own_wide hE X' r hk eT h2 gr hZ N C S hL O' el ek en C') C'.2.1 hQ)
theorem own_nf {C : String} {y z : MethodName} (w3 : (Cond.selects C y z).before a0 Z = true) (q : y = z) : ∀ vm0, Z.Warmed39 vm0 → NotFace (s.setVm vm0) y := fun vm0 hZ => by
  subst q; exact notFace_of_selects (args := #[]) (mvT (s := s.setVm vm0) hZ w3)
theorem own_ifaceW (H : Wk p l e R s m args below meth c Z EL a0 true T h k n sf) (hx : p.tables.exec = Jvm.exec) {own C : String} {index count : Nat} {xi y : MethodName} {bytes : ByteArray} {maxL : Nat} {ret : Option FieldType} (hown : s.vm.findClass own = some m.cls) (w1 : (Cond.methodLink own index xi).before a0 Z = true) (w2 : (Cond.declares xi).before a0 Z = true) (w3 : (Cond.interfaceMethod xi.cls xi.cls xi.name xi.desc).before a0 Z = true) (w3f : ((Cond.interfaceMethod xi.cls xi.cls xi.name xi.desc).onTables && (Cond.interfaceMethod xi.cls xi.cls xi.name xi.desc).keepsFace) = true) (w5 : (Cond.selects C xi y).before a0 Z = true) (w6 : (Cond.instanceMethod y).before a0 Z = true) (w7 : (Cond.publicMethod y).before a0 Z = true) (w8 : (Cond.unhidden C xi.name xi.desc).before a0 Z = true) (w9 : (Cond.castable C xi.cls).before a0 Z = true) (w10 : (Cond.initialized y.cls).before a0 Z = true) (w4 : (Cond.code y bytes maxL ret).before a0 Z = true)
    (hy : xi.cls ≠ "java/lang/invoke/MethodHandle" ∧ xi.cls ≠ "java/lang/invoke/VarHandle") {W : Nat} {rm : Room} {as' : Array Value} {sfc : List Addr} {Q : Option Value → Heap → Prop} (hM : Ct l Z EL a0 true y bytes maxL ret [] rm as' h sfc Q) (hsf : ∀ x ∈ sfc, x ∈ sf) (hf : rm.frames + 1 ≤ R.frames) (hl : W + (maxL + 11) + rm.locals ≤ R.locals)
    {b : Addr} (E : Exa Z h b C) {g : JFrame} (hg : g.method = m) (hsize : g.locals.size = c.maxLocals) {argsL rest : List Value} (has : (.ref b :: argsL).toArray = as') (hlen : ∀ sig, parseMethodDescriptor xi.desc = some sig → argsL.length = sig.parameters.length) (hstack : g.stack = argsL.reverse ++ .ref b :: rest) (hW : 2 * g.monitorRoom + (rest.map fun v => v.category).sum ≤ W) (hd : decode c.code g.pc = .ok (.invokeinterface index count, 5)) (hc : k + rm.cells ≤ R.cells) (hn : n + rm.slots ≤ R.slots)
    (K : ∀ T' h' v, Wk p l e R s m args below meth c Z EL a0 true T' h' (k + rm.cells) (n + rm.slots) sf → h.size ≤ h'.size → Q v h' → Go p e below Φ T' { g with pc := g.pc + 5, stack := v.toList ++ rest }) : Go p e below Φ T g := by
  obtain ⟨hE, vm0, locs, k0, X, eT, r, hk, hZ, N, O, C, S⟩ := H
  obtain ⟨cq, kq, qa, qb, qc⟩ := isOf (s := s.setVm vm0) hZ eT E
  obtain ⟨v, vm1, B, hWm, X', h2, gr, ⟨L, ⟨hL, O', hQ⟩, el, ek, en, C'⟩, st⟩ := X.interfaceBackS hx (own_found r hown) (mvT hZ w1) (mvT hZ w2) (mvT hZ w3 w3f) (mvT hZ w5) (mvT hZ w6) (mvT hZ w7) (mvT hZ w8) (mvT hZ w9) hy (own_backW hM w4 w10 hf hl hZ hE C.1 fun x hx => S x (hsf x hx)) qa qb qc hg hsize (Steps.refl _) hlen hstack hW hd fun _ _ => ⟨has, eT, hc, hn⟩
  exact Go.by st (K B.U _ v (own_wide hE X' r hk eT h2 gr hZ N C S hL O' el ek en C') C'.2.1 hQ)
end OwnLayer
end Jvm.Pilot.@@N@@
namespace Jvm.Pilot.@@N@@
open Jvm Jvm.ClassFile Sem Op Lib Jvm.Free Jvm.Stand Jvm.LawKit Jvm.RoadKit Bundle
section OwnStr
variable {p : Program} {l : Launch} {e : Env} {R : Room} {s : State} {m : MethodId} {args : Array Value} {below : List Frame} {meth : Method} {c : Code} {Z : State} {EL : List (String × Nat)} {a0 : Array Value} {T : State} {h h' : Heap} {k n : Nat} {sf : List Addr} {w : Bool} {Φ : State → Prop} {r : Addr} {cs : List Int32}
/-- in the heap h, r is a String of the chars cs -/
def own_str (Z : State) (h : Heap) (r : Addr) (cs : List Int32) : Prop := ∃ (t : Addr) (kb : ClassId) (cd N2 : Int32) (vs : List Value), Exa Z h r "java/lang/String" ∧ Fld Z h r "java/lang/String" "coder" "B" (.int cd) ∧ Fld Z h r "java/lang/String" "value" "[B" (.ref t) ∧ Arv Z h t kb .byte N2 vs (.int 0) ∧ StrChars.Road.CodA cs cd N2 vs ∧ ∀ c ∈ cs, ¬ c < 0 ∧ ¬ (65535 : Int32) < c
theorem own_str.exa (S : own_str Z h r cs) : Exa Z h r "java/lang/String" := by obtain ⟨t, kb, cd, N2, vs, E, -⟩ := S; exact E
theorem own_str.lt (S : own_str Z h r cs) : r < h.size := S.exa.lt
theorem own_str.ext (S : own_str Z h r cs) (E : Ext h h') : own_str Z h' r cs := by obtain ⟨t, kb, cd, N2, vs, a, b, c, d, e⟩ := S; exact ⟨t, kb, cd, N2, vs, a.ext E, b.ext E, c.ext E, d.ext E, e⟩
def own_nstr (Z : State) (a0 : Array Value) (h : Heap) (x : Addr) : Prop := ∃ C k, Exa Z h x C ∧ C ≠ "java/lang/String" ∧ (Jvm.Cond.instantiable C k).before a0 Z = true
theorem own_str.keep {ws : List Addr} (S : own_str Z h r cs) (K : Keep h h' ws) (q : ∀ x ∈ ws, own_nstr Z a0 h x) : own_str Z h' r cs := by
  obtain ⟨t, kb, cd, N2, vs, a, b, c, d, e⟩ := S
  have n1 : r ∉ ws := fun hm => by obtain ⟨C, k, E, hn, -⟩ := q _ hm; exact ne_exa E a hn rfl
  have n2 : t ∉ ws := fun hm => by
    obtain ⟨C, k, E, hn, wi⟩ := q _ hm
    obtain ⟨cl, A, -⟩ := d
    exact ne_arr E wi A rfl
  exact ⟨t, kb, cd, N2, vs, a.keep K, b.keep K n1, c.keep K n1, d.keep K n2, e⟩
theorem own_str.keep0 (S : own_str Z h r cs) (K : Keep h h' []) : own_str Z h' r cs := S.keep (a0 := #[]) K fun _ hx => nomatch hx
theorem own_str.chars (S : own_str Z h r cs) : ∀ c ∈ cs, ¬ c < 0 ∧ ¬ (65535 : Int32) < c := by obtain ⟨t, kb, cd, N2, vs, a, b, c, d, e, f⟩ := S; exact f
theorem own_up {cs : List Int32} (hp : ∀ c ∈ cs, ¬ c < 0 ∧ ¬ (255 : Int32) < c) : ∀ c ∈ cs, ¬ c < 0 ∧ ¬ (65535 : Int32) < c := fun c hc => ⟨(hp c hc).1, fun q => (hp c hc).2 (by
  have e1 : (255 : Int32).toInt = 255 := by decide
  have e2 : (65535 : Int32).toInt = 65535 := by decide
  rw [Int32.lt_iff_toInt_lt, e2] at q; rw [Int32.lt_iff_toInt_lt, e1]; omega)⟩
theorem own_str.empty {t : Addr} {kb : ClassId} (a : Exa Z h r "java/lang/String") (b : Fld Z h r "java/lang/String" "coder" "B" (.int 0)) (c : Fld Z h r "java/lang/String" "value" "[B" (.ref t)) (d : Arv Z h t kb .byte 0 [] (.int 0)) : own_str Z h r [] :=
  ⟨t, kb, 0, 0, [], a, b, c, d, StrChars.Road.codOf rfl (fun _ hq => nomatch hq), fun _ hq => nomatch hq⟩
theorem own_newS (H : Wk p l e R s m args below meth c Z EL a0 w T h k n sf) (hx : p.tables.exec = Jvm.exec) {own : String} {index : Nat} {bytes : ByteArray} {maxL : Nat} (hown : s.vm.findClass own = some m.cls) (w1 : (Jvm.Cond.methodLink own index (⟨"java/lang/String", "<init>", "([C)V"⟩ : MethodName)).before a0 Z = true) (w2 : (Jvm.Cond.instanceMethod (⟨"java/lang/String", "<init>", "([C)V"⟩ : MethodName)).before a0 Z = true) (w4 : (Jvm.Cond.code (⟨"java/lang/String", "<init>", "([C)V"⟩ : MethodName) bytes maxL none).before a0 Z = true)
    (hws : ∀ d ∈ StrChars.Road.words, d.before a0 Z = true) {kI : Nat} (wi : (Jvm.Cond.instantiable "java/lang/String" kI).before a0 Z = true) {x b : Addr} {kC : ClassId} {N z : Int32} {d v0 c0 : Value} {ln W : Nat} (Ex : Exa Z h x "java/lang/String") (Fv : Fld Z h x "java/lang/String" "value" "[B" v0) (Fc : Fld Z h x "java/lang/String" "coder" "B" c0) (V : Arv Z h b kC .char N (cs.map Value.int) d) (Sc : Sta Z Z.heap "java/lang/String" "COMPACT_STRINGS" "Z" (.int z)) (hz : ¬ z = 0)
    (hn' : cs.length = ln) (hN : N = Int32.ofNat ln) (l0 : 0 < ln) (l2 : ln ≤ 4000) (hp : ∀ c ∈ cs, ¬ c < 0 ∧ ¬ (255 : Int32) < c) (hfr : 4 ≤ R.frames) (hlo : W + 65 ≤ R.locals) (hxs : Z.heap.size ≤ x) (hxm : x ∈ sf)
    {g : JFrame} (hg : g.method = m) (hsize : g.locals.size = c.maxLocals) {rest : List Value} (hstack : g.stack = .ref b :: .ref x :: rest) (hW : 2 * g.monitorRoom + (rest.map fun v => v.category).sum ≤ W) (hd : decode c.code g.pc = .ok (.invokespecial index, 3)) (hc : k + 1 ≤ R.cells) (hn : n + ln ≤ R.slots)
    (K : ∀ T' h', Wk p l e R s m args below meth c Z EL a0 w T' h' (k + 1) (n + ln) sf → Keep h h' [x] → own_str Z h' x cs → Go p e below Φ T' { g with pc := g.pc + 3, stack := rest }) : Go p e below Φ T g := by
  have O := H.old
  refine own_specialB H hx (y := (⟨"java/lang/String", "<init>", "([C)V"⟩ : MethodName)) rfl hown w1 w2 w4 (by decide) (W := W) (kc := 1) (kn := ln) (as' := #[.ref x, .ref b]) (fun v h' L => StrChars.Road.QV Z x N (cs.map fun c => c.toInt8.toInt32) h Z.heap.size v h' L)
    (fun vm0 hZ _ => StrChars.Road.backV (s := s.setVm vm0) hZ hws wi hxs O.1 Ex Fv Fc V (Sc.ext O) hz hn' hN l0 l2 hp rfl hfr hlo) (ws := [x]) (fun v h' L q => ⟨q.2.1, q.2.2.1⟩) (allS ⟨hxs, own_mem hxm⟩ all0) hg hsize (a := x) (argsL := [.ref b]) (rest := rest) rfl (lenOf (by decide : parseMethodDescriptor "([C)V" = some ⟨[.array .char], none⟩) rfl) hstack hW hd hc hn ?_
  intro T' h' v L H' q
  obtain ⟨rfl, -, Kp, E', F', t, kb, -, -, -, Fv', V'⟩ := q
  subst hN
  exact K T' h' H' Kp ⟨t, kb, 0, _, _, E', F', Fv', V', StrChars.Road.codOf hn' fun c hc => (hp c hc).2, own_up hp⟩
end OwnStr
end Jvm.Pilot.@@N@@
namespace Jvm.Pilot.@@N@@
open Jvm Jvm.ClassFile Sem Op Lib Jvm.Free Jvm.Stand Jvm.LawKit Jvm.RoadKit Bundle
section OwnStrLen
variable {p : Program} {l : Launch} {e : Env} {R : Room} {s : State} {m : MethodId} {args : Array Value} {below : List Frame} {meth : Method} {c : Code} {Z : State} {EL : List (String × Nat)} {a0 : Array Value} {T : State} {h h' : Heap} {k n : Nat} {sf : List Addr} {w : Bool} {Φ : State → Prop} {r : Addr} {cs : List Int32}
theorem own_lenS (H : Wk p l e R s m args below meth c Z EL a0 w T h k n sf) (hx : p.tables.exec = Jvm.exec) {own : String} {index : Nat} (hown : s.vm.findClass own = some m.cls) (w1 : (Jvm.Cond.methodLink own index (⟨"java/lang/String", "length", "()I"⟩ : MethodName)).before a0 Z = true) (w2 : (Jvm.Cond.declares (⟨"java/lang/String", "length", "()I"⟩ : MethodName)).before a0 Z = true) (w3 : (Jvm.Cond.selects "java/lang/String" (⟨"java/lang/String", "length", "()I"⟩ : MethodName) (⟨"java/lang/String", "length", "()I"⟩ : MethodName)).before a0 Z = true) (w4 : (Jvm.Cond.instanceMethod (⟨"java/lang/String", "length", "()I"⟩ : MethodName)).before a0 Z = true)
    (hws : ∀ d ∈ StrChars.Road.wordsLen, d.before a0 Z = true) {kI : Nat} (wi : (Jvm.Cond.instantiable "java/lang/String" kI).before a0 Z = true) {x : Addr} {z : Int32} {W : Nat} (Sx : own_str Z h x cs) (lx : cs.length ≤ 4000) (Sc : Sta Z Z.heap "java/lang/String" "COMPACT_STRINGS" "Z" (.int z)) (hz : ¬ z = 0) (hfr : 2 ≤ R.frames) (hlo : W + 25 ≤ R.locals)
    {g : JFrame} (hg : g.method = m) (hsize : g.locals.size = c.maxLocals) {rest : List Value} (hstack : g.stack = .ref x :: rest) (hW : 2 * g.monitorRoom + (rest.map fun v => v.category).sum ≤ W) (hd : decode c.code g.pc = .ok (.invokevirtual index, 3)) (hc : k + 0 ≤ R.cells) (hn : n + 0 ≤ R.slots)
    (K : ∀ T', Wk p l e R s m args below meth c Z EL a0 w T' h k n sf → Go p e below Φ T' { g with pc := g.pc + 3, stack := .int (Int32.ofNat cs.length) :: rest }) : Go p e below Φ T g := by
  have O := H.old
  have Ex := Sx.exa
  obtain ⟨t, kb, cd, N2, vs, a, b, c1, d, e1, f⟩ := Sx
  refine own_virtualB H hx (y := (⟨"java/lang/String", "length", "()I"⟩ : MethodName)) (z := (⟨"java/lang/String", "length", "()I"⟩ : MethodName)) hown w1 w2 w3 rfl w4 (by decide) (W := W) (kc := 0) (kn := 0) (as' := #[.ref x]) (fun v h' L => v = some (.int (Int32.ofNat cs.length)) ∧ L = [] ∧ h' = h)
    (fun vm0 hZ _ => StrChars.Road.lenW (s := s.setVm vm0) hZ hws wi a c1 b d e1 f (Sc.ext O) hz lx hfr hlo) (ws := []) (fun v h' L q => ⟨q.2.1 ▸ Fr.nil _, q.2.2 ▸ Keep.refl _ _⟩) all0 Ex hg hsize (argsL := []) (rest := rest) rfl (lenOf (by decide : parseMethodDescriptor "()I" = some ⟨[], some .int⟩) rfl) hstack hW hd hc hn ?_
  intro T' h' v L H' q
  obtain ⟨rfl, rfl, rfl⟩ := q
  exact K T' H'
end OwnStrLen
end Jvm.Pilot.@@N@@
namespace Jvm.Pilot.@@N@@
open Jvm Jvm.ClassFile Sem Op Lib Jvm.Free Jvm.Stand Jvm.LawKit Jvm.RoadKit Bundle
section OwnStrCh
variable {p : Program} {l : Launch} {e : Env} {R : Room} {s : State} {m : MethodId} {args : Array Value} {below : List Frame} {meth : Method} {c : Code} {Z : State} {EL : List (String × Nat)} {a0 : Array Value} {T : State} {h h' : Heap} {k n : Nat} {sf : List Addr} {w : Bool} {Φ : State → Prop} {r : Addr} {cs : List Int32}
theorem own_chS (H : Wk p l e R s m args below meth c Z EL a0 w T h k n sf) (hx : p.tables.exec = Jvm.exec) {own : String} {index : Nat} (hown : s.vm.findClass own = some m.cls) (w1 : (Jvm.Cond.methodLink own index (⟨"java/lang/String", "charAt", "(I)C"⟩ : MethodName)).before a0 Z = true) (w2 : (Jvm.Cond.declares (⟨"java/lang/String", "charAt", "(I)C"⟩ : MethodName)).before a0 Z = true) (w3 : (Jvm.Cond.selects "java/lang/String" (⟨"java/lang/String", "charAt", "(I)C"⟩ : MethodName) (⟨"java/lang/String", "charAt", "(I)C"⟩ : MethodName)).before a0 Z = true) (w4 : (Jvm.Cond.instanceMethod (⟨"java/lang/String", "charAt", "(I)C"⟩ : MethodName)).before a0 Z = true)
    (hws : ∀ d ∈ StrChars.Road.wordsChN, d.before a0 Z = true) {kI : Nat} (wi : (Jvm.Cond.instantiable "java/lang/String" kI).before a0 Z = true) {x : Addr} {z j : Int32} {fm : Value} {W i : Nat} (Sx : own_str Z h x cs) (lx : cs.length ≤ 4000) (hp : ∀ c ∈ cs, ¬ c < 0 ∧ ¬ (255 : Int32) < c) (hi : i < cs.length) (hj : j = Int32.ofNat i) (Sc : Sta Z Z.heap "java/lang/String" "COMPACT_STRINGS" "Z" (.int z)) (hz : ¬ z = 0) (Sf : Sta Z Z.heap "jdk/internal/util/Preconditions" "SIOOBE_FORMATTER" "Ljava/util/function/BiFunction;" fm) (rf : fm.isRef = true) (hfr : 4 ≤ R.frames) (hlo : W + 53 ≤ R.locals)
    {g : JFrame} (hg : g.method = m) (hsize : g.locals.size = c.maxLocals) {rest : List Value} (hstack : g.stack = .int j :: .ref x :: rest) (hW : 2 * g.monitorRoom + (rest.map fun v => v.category).sum ≤ W) (hd : decode c.code g.pc = .ok (.invokevirtual index, 3)) (hc : k + 0 ≤ R.cells) (hn : n + 0 ≤ R.slots)
    (K : ∀ T', Wk p l e R s m args below meth c Z EL a0 w T' h k n sf → Go p e below Φ T' { g with pc := g.pc + 3, stack := .int (cs.getD i 0) :: rest }) : Go p e below Φ T g := by
  have O := H.old
  have Ex := Sx.exa
  obtain ⟨t, kb, cd, N2, vs, a, b, c1, d, e1, f⟩ := Sx
  obtain rfl : cd = 0 := by
    rcases e1 with ⟨q, -⟩ | ⟨-, -, -, c, hc, hq⟩
    · exact q
    · exact absurd hq (hp c hc).2
  refine own_virtualB H hx (y := (⟨"java/lang/String", "charAt", "(I)C"⟩ : MethodName)) (z := (⟨"java/lang/String", "charAt", "(I)C"⟩ : MethodName)) hown w1 w2 w3 rfl w4 (by decide) (W := W) (kc := 0) (kn := 0) (as' := #[.ref x, .int j]) (fun v h' L => v = some (.int (cs.getD i 0)) ∧ L = [] ∧ h' = h)
    (fun vm0 hZ _ => StrChars.Road.chN (s := s.setVm vm0) hZ hws wi a c1 b d e1 f (Sc.ext O) hz (Sf.ext O) rf lx hi hj hfr hlo) (ws := []) (fun v h' L q => ⟨q.2.1 ▸ Fr.nil _, q.2.2 ▸ Keep.refl _ _⟩) all0 Ex hg hsize (argsL := [.int j]) (rest := rest) rfl (lenOf (by decide : parseMethodDescriptor "(I)C" = some ⟨[.int], some .char⟩) rfl) hstack hW hd hc hn ?_
  intro T' h' v L H' q
  obtain ⟨rfl, rfl, rfl⟩ := q
  exact K T' H'
end OwnStrCh
end Jvm.Pilot.@@N@@
namespace Jvm.Pilot.@@N@@
open Jvm Jvm.ClassFile Sem Op Lib Jvm.Free Jvm.Stand Jvm.LawKit Jvm.RoadKit Bundle
section OwnCp
variable {p : Program} {l : Launch} {e : Env} {R : Room} {s : State} {m : MethodId} {args : Array Value} {below : List Frame} {meth : Method} {c : Code} {Z : State} {EL : List (String × Nat)} {a0 : Array Value} {T : State} {h h' : Heap} {k n : Nat} {sf : List Addr} {w : Bool} {Φ : State → Prop} {r : Addr} {cs : List Int32}
theorem own_cp (H : Wk p l e R s m args below meth c Z EL a0 w T h k n sf) (hx : p.tables.exec = Jvm.exec) {own : String} {index : Nat} (hown : s.vm.findClass own = some m.cls)
    (w1 : (Jvm.Cond.methodLink own index Jvm.Stand.acN).before a0 Z = true) (w2 : (Jvm.Cond.native Jvm.Stand.acN).before a0 Z = true) (w3 : (Jvm.Cond.static Jvm.Stand.acN).before a0 Z = true) (w4 : (Jvm.Cond.initialized "java/lang/System").before a0 Z = true)
    {a b : Addr} {ka kb : ClassId} {ty ty' : FieldType} {z z' sp dp nn : Int32} {vs vd us : List Value} {dv dd : Value} (A : Arv Z h a ka ty z vs dv) (B : Arv Z h b kb ty' z' vd dd) (hty : (ty = ty' ∧ refKind ty = false) ∨ (refKind ty = true ∧ refKind ty' = true ∧ StoL Z h b us))
    (h1 : ¬ sp < 0) (h2 : ¬ dp < 0) (h3 : ¬ nn < 0) (h4 : sp.toNatClampNeg + nn.toNatClampNeg ≤ z.toNatClampNeg) (h5 : dp.toNatClampNeg + nn.toNatClampNeg ≤ z'.toNatClampNeg)
    (hus : us = (List.range nn.toNatClampNeg).map fun i => vs.getD (sp.toNatClampNeg + i) dv) (hl : dp.toNatClampNeg + nn.toNatClampNeg ≤ vd.length) (hb : Z.heap.size ≤ b) (hsw : own_sw Z EL sf h b)
    {g : JFrame} (hg : g.method = m) (hsize : g.locals.size = c.maxLocals) {rest : List Value} (hs : g.stack = .int nn :: .int dp :: .ref b :: .int sp :: .ref a :: rest) (hd : decode c.code g.pc = .ok (.invokestatic index, 3))
    (hf : 1 ≤ R.frames) {W : Nat} (hW : 2 * g.monitorRoom + (rest.map fun v => v.category).sum ≤ W) (hlo : W + (nativeFrameWords "java/lang/System" "arraycopy" 5 + 11) ≤ R.locals)
    (K : ∀ T' h', Wk p l e R s m args below meth c Z EL a0 w T' h' k n sf → Keep h h' [b] → Arv Z h' b kb ty' z' (vd.take dp.toNatClampNeg ++ us ++ vd.drop (dp.toNatClampNeg + nn.toNatClampNeg)) dd → Go p e below Φ T' { g with pc := g.pc + 3, stack := rest }) : Go p e below Φ T g := by
  obtain ⟨hE, vm0, locs, k0, X, eT, r, hk, hZ, N, O, C, S⟩ := H
  obtain ⟨T', h', L, X', e', N', Kp, B', st⟩ := cpA X hx hZ (own_found r hown) w1 w2 w3 w4 eT A B hty h1 h2 h3 h4 h5 hus hl N hb hg hsize hs hd hf hW hlo
  have hs : ∀ x ∈ [b], Safe Z EL vm0 h x := allS (hsw.safe hZ.alike S) all0
  refine Go.of st (K T' h' ⟨hE, vm0, L, k0, X', e', r, Nat.le_trans hk Kp.1, hZ, N', (Old.keep ⟨rfl, O⟩ Kp (allS hb all0)).2, C.trans (CHr.keep Kp hs C.1), fun x hx => ⟨Nat.lt_of_lt_of_le (S x hx).1 Kp.1, (S x hx).2.keep Kp hs C.1⟩⟩ Kp B')
end OwnCp
end Jvm.Pilot.@@N@@
namespace Jvm.Pilot.@@N@@
open Jvm Jvm.ClassFile Sem Op Lib Jvm.Free Jvm.Stand Jvm.LawKit Jvm.RoadKit Bundle Jvm.Pilot.@@N@@.Jvm.D
theorem ef_rm_s2 (m : MethodId) (x0 : Addr) (x1 : Addr) (x2 : Int32) (x3 : Int32) : entryFrame m #[(.ref x0), (.ref x1), (.int x2), (.int x3), .null] 6 = mkF m 0 #[.val (.ref x0), .val (.ref x1), .val (.int x2), .val (.int x3), .val .null, .unset] [] := by first | (simp [entryFrame, mkF, argsToLocals, Value.category]; done) | rfl
theorem pn_0 : plainName "java/lang/String" = true := by first | (simp [plainName, overriddenIn]; done) | decide +kernel
theorem d_jdk_42_149_0 : decode jdk_42_method_149_code 0 = .ok (.aload_n 0, 1) := by decide +kernel
theorem d_jdk_42_149_1 : decode jdk_42_method_149_code 1 = .ok (.invokespecial 1, 3) := by decide +kernel
theorem d_jdk_42_149_4 : decode jdk_42_method_149_code 4 = .ok (.iload_n 3, 1) := by decide +kernel
theorem d_jdk_42_149_5 : decode jdk_42_method_149_code 5 = .ok (.ifCond .ne 22, 3) := by decide +kernel
theorem d_jdk_42_149_8 : decode jdk_42_method_149_code 8 = .ok (.aload_n 0, 1) := by decide +kernel
theorem d_jdk_42_149_9 : decode jdk_42_method_149_code 9 = .ok (.ldc 7, 2) := by decide +kernel
theorem d_jdk_42_149_11 : decode jdk_42_method_149_code 11 = .ok (.getfield 9, 3) := by decide +kernel
theorem d_jdk_42_149_14 : decode jdk_42_method_149_code 14 = .ok (.putfield 9, 3) := by decide +kernel
theorem d_jdk_42_149_17 : decode jdk_42_method_149_code 17 = .ok (.aload_n 0, 1) := by decide +kernel
theorem d_jdk_42_149_18 : decode jdk_42_method_149_code 18 = .ok (.ldc 7, 2) := by decide +kernel
theorem d_jdk_42_149_20 : decode jdk_42_method_149_code 20 = .ok (.getfield 15, 3) := by decide +kernel
theorem d_jdk_42_149_23 : decode jdk_42_method_149_code 23 = .ok (.putfield 15, 3) := by decide +kernel
theorem d_jdk_42_149_26 : decode jdk_42_method_149_code 26 = .ok (.return_, 1) := by decide +kernel
theorem ef_rm_s1 (m : MethodId) (x0 : Addr) (x1 : Addr) : entryFrame m #[(.ref x0), (.ref x1)] 2 = mkF m 0 #[.val (.ref x0), .val (.ref x1)] [] := by first | (simp [entryFrame, mkF, argsToLocals, Value.category]; done) | rfl
theorem d_jdk_42_3_0 : decode jdk_42_method_3_code 0 = .ok (.aload_n 0, 1) := by decide +kernel
theorem d_jdk_42_3_1 : decode jdk_42_method_3_code 1 = .ok (.aload_n 1, 1) := by decide +kernel
theorem d_jdk_42_3_2 : decode jdk_42_method_3_code 2 = .ok (.iconst 0, 1) := by decide +kernel
theorem d_jdk_42_3_3 : decode jdk_42_method_3_code 3 = .ok (.aload_n 1, 1) := by decide +kernel
theorem d_jdk_42_3_4 : decode jdk_42_method_3_code 4 = .ok (.arraylength, 1) := by decide +kernel
theorem d_jdk_42_3_5 : decode jdk_42_method_3_code 5 = .ok (.aconst_null, 1) := by decide +kernel
theorem d_jdk_42_3_6 : decode jdk_42_method_3_code 6 = .ok (.invokespecial 27, 3) := by decide +kernel
theorem pd_0 : parseMethodDescriptor "([CIILjava/lang/Void;)V" = some ⟨[(.array .char), .int, .int, (.object "java/lang/Void")], none⟩ := by decide +kernel
theorem d_jdk_42_3_9 : decode jdk_42_method_3_code 9 = .ok (.return_, 1) := by decide +kernel
theorem ef_rm_draw (m : MethodId) (x0 : Int32) : entryFrame m #[(.int x0)] 2 = mkF m 0 #[.val (.int x0), .unset] [] := by first | (simp [entryFrame, mkF, argsToLocals, Value.category]; done) | rfl
theorem pn_1 : plainName "com/example/brokerward/brokerward/http/RequestHeadTrimPinLaw" = true := by first | (simp [plainName, overriddenIn]; done) | decide +kernel
theorem d_2_0 : decode method_2_code 0 = .ok (.iload_n 0, 1) := by decide +kernel
theorem d_2_1 : decode method_2_code 1 = .ok (.iconst 3, 1) := by decide +kernel
theorem d_2_2 : decode method_2_code 2 = .ok (.iand, 1) := by decide +kernel
theorem d_2_3 : decode method_2_code 3 = .ok (.istore_n 1, 1) := by decide +kernel
theorem d_2_4 : decode method_2_code 4 = .ok (.iload_n 1, 1) := by decide +kernel
theorem d_2_5 : decode method_2_code 5 = .ok (.ifCond .ne 6, 3) := by decide +kernel
theorem d_2_8 : decode method_2_code 8 = .ok (.bipush 32, 2) := by decide +kernel
theorem d_2_10 : decode method_2_code 10 = .ok (.ireturn, 1) := by decide +kernel
theorem d_2_11 : decode method_2_code 11 = .ok (.iload_n 1, 1) := by decide +kernel
theorem d_2_12 : decode method_2_code 12 = .ok (.iconst 1, 1) := by decide +kernel
theorem d_2_13 : decode method_2_code 13 = .ok (.if_icmp .ne 6, 3) := by decide +kernel
theorem d_2_16 : decode method_2_code 16 = .ok (.bipush 9, 2) := by decide +kernel
theorem d_2_18 : decode method_2_code 18 = .ok (.ireturn, 1) := by decide +kernel
theorem d_2_19 : decode method_2_code 19 = .ok (.iload_n 0, 1) := by decide +kernel
theorem d_2_20 : decode method_2_code 20 = .ok (.iconst 2, 1) := by decide +kernel
theorem d_2_21 : decode method_2_code 21 = .ok (.iushr, 1) := by decide +kernel
theorem d_2_22 : decode method_2_code 22 = .ok (.sipush 255, 3) := by decide +kernel
theorem d_2_25 : decode method_2_code 25 = .ok (.iand, 1) := by decide +kernel
theorem d_2_26 : decode method_2_code 26 = .ok (.i2c, 1) := by decide +kernel
theorem d_2_27 : decode method_2_code 27 = .ok (.ireturn, 1) := by decide +kernel
theorem ef_rm_isb (m : MethodId) (x0 : Int32) : entryFrame m #[(.int x0)] 1 = mkF m 0 #[.val (.int x0)] [] := by first | (simp [entryFrame, mkF, argsToLocals, Value.category]; done) | rfl
theorem pn_2 : plainName "com/example/brokerward/brokerward/http/RequestHead" = true := by first | (simp [plainName, overriddenIn]; done) | decide +kernel
theorem d_prog_25_18_0 : decode prog_25_method_18_code 0 = .ok (.iload_n 0, 1) := by decide +kernel
theorem d_prog_25_18_1 : decode prog_25_method_18_code 1 = .ok (.bipush 32, 2) := by decide +kernel
theorem d_prog_25_18_3 : decode prog_25_method_18_code 3 = .ok (.if_icmp .eq 9, 3) := by decide +kernel
theorem d_prog_25_18_12 : decode prog_25_method_18_code 12 = .ok (.iconst 1, 1) := by decide +kernel
theorem d_prog_25_18_13 : decode prog_25_method_18_code 13 = .ok (.goto 4, 3) := by decide +kernel
theorem d_prog_25_18_17 : decode prog_25_method_18_code 17 = .ok (.ireturn, 1) := by decide +kernel
theorem d_prog_25_18_6 : decode prog_25_method_18_code 6 = .ok (.iload_n 0, 1) := by decide +kernel
theorem d_prog_25_18_7 : decode prog_25_method_18_code 7 = .ok (.bipush 9, 2) := by decide +kernel
theorem d_prog_25_18_9 : decode prog_25_method_18_code 9 = .ok (.if_icmp .ne 7, 3) := by decide +kernel
theorem d_prog_25_18_16 : decode prog_25_method_18_code 16 = .ok (.iconst 0, 1) := by decide +kernel
theorem ef_rm_kept (m : MethodId) (x0 : Addr) (x1 : Int32) (x2 : Int32) : entryFrame m #[(.ref x0), (.int x1), (.int x2)] 3 = mkF m 0 #[.val (.ref x0), .val (.int x1), .val (.int x2)] [] := by first | (simp [entryFrame, mkF, argsToLocals, Value.category]; done) | rfl
theorem d_3_0 : decode method_3_code 0 = .ok (.iload_n 2, 1) := by decide +kernel
theorem d_3_1 : decode method_3_code 1 = .ok (.iload_n 1, 1) := by decide +kernel
theorem d_3_2 : decode method_3_code 2 = .ok (.if_icmp .ge 23, 3) := by decide +kernel
theorem d_3_5 : decode method_3_code 5 = .ok (.aload_n 0, 1) := by decide +kernel
theorem d_3_6 : decode method_3_code 6 = .ok (.iload_n 2, 1) := by decide +kernel
theorem d_3_7 : decode method_3_code 7 = .ok (.caload, 1) := by decide +kernel
theorem d_3_8 : decode method_3_code 8 = .ok (.bipush 32, 2) := by decide +kernel
theorem d_3_10 : decode method_3_code 10 = .ok (.if_icmp .eq 15, 3) := by decide +kernel
theorem d_3_25 : decode method_3_code 25 = .ok (.iconst 0, 1) := by decide +kernel
theorem d_3_26 : decode method_3_code 26 = .ok (.ireturn, 1) := by decide +kernel
theorem d_3_13 : decode method_3_code 13 = .ok (.aload_n 0, 1) := by decide +kernel
theorem d_3_14 : decode method_3_code 14 = .ok (.iload_n 2, 1) := by decide +kernel
theorem d_3_15 : decode method_3_code 15 = .ok (.caload, 1) := by decide +kernel
theorem d_3_16 : decode method_3_code 16 = .ok (.bipush 9, 2) := by decide +kernel
theorem d_3_18 : decode method_3_code 18 = .ok (.if_icmp .eq 7, 3) := by decide +kernel
theorem d_3_21 : decode method_3_code 21 = .ok (.iconst 1, 1) := by decide +kernel
theorem d_3_22 : decode method_3_code 22 = .ok (.goto 4, 3) := by decide +kernel
theorem ef_rm_make (m : MethodId) (x0 : Addr) (x1 : Int32) : entryFrame m #[(.ref x0), (.int x1)] 2 = mkF m 0 #[.val (.ref x0), .val (.int x1)] [] := by first | (simp [entryFrame, mkF, argsToLocals, Value.category]; done) | rfl
theorem d_4_0 : decode method_4_code 0 = .ok (.iload_n 1, 1) := by decide +kernel
theorem d_4_1 : decode method_4_code 1 = .ok (.ifCond .ne 14, 3) := by decide +kernel
theorem d_4_4 : decode method_4_code 4 = .ok (.new 7, 3) := by decide +kernel
theorem d_4_7 : decode method_4_code 7 = .ok (.dup, 1) := by decide +kernel
theorem d_4_8 : decode method_4_code 8 = .ok (.iconst 0, 1) := by decide +kernel
theorem d_4_9 : decode method_4_code 9 = .ok (.newarray .char, 2) := by decide +kernel
theorem d_4_11 : decode method_4_code 11 = .ok (.invokespecial 9, 3) := by decide +kernel
theorem pd_1 : parseMethodDescriptor "([C)V" = some ⟨[(.array .char)], none⟩ := by decide +kernel
theorem d_4_14 : decode method_4_code 14 = .ok (.areturn, 1) := by decide +kernel
theorem d_4_15 : decode method_4_code 15 = .ok (.iload_n 1, 1) := by decide +kernel
theorem d_4_16 : decode method_4_code 16 = .ok (.iconst 1, 1) := by decide +kernel
theorem d_4_17 : decode method_4_code 17 = .ok (.if_icmp .ne 20, 3) := by decide +kernel
theorem d_4_20 : decode method_4_code 20 = .ok (.new 7, 3) := by decide +kernel
theorem d_4_23 : decode method_4_code 23 = .ok (.dup, 1) := by decide +kernel
theorem d_4_24 : decode method_4_code 24 = .ok (.iconst 1, 1) := by decide +kernel
theorem d_4_25 : decode method_4_code 25 = .ok (.newarray .char, 2) := by decide +kernel
theorem d_4_27 : decode method_4_code 27 = .ok (.dup, 1) := by decide +kernel
theorem d_4_28 : decode method_4_code 28 = .ok (.iconst 0, 1) := by decide +kernel
theorem d_4_29 : decode method_4_code 29 = .ok (.aload_n 0, 1) := by decide +kernel
theorem d_4_30 : decode method_4_code 30 = .ok (.iconst 0, 1) := by decide +kernel
theorem d_4_31 : decode method_4_code 31 = .ok (.caload, 1) := by decide +kernel
theorem d_4_32 : decode method_4_code 32 = .ok (.castore, 1) := by decide +kernel
theorem d_4_33 : decode method_4_code 33 = .ok (.invokespecial 9, 3) := by decide +kernel
theorem d_4_36 : decode method_4_code 36 = .ok (.areturn, 1) := by decide +kernel
theorem d_4_37 : decode method_4_code 37 = .ok (.iload_n 1, 1) := by decide +kernel
theorem d_4_38 : decode method_4_code 38 = .ok (.iconst 2, 1) := by decide +kernel
theorem d_4_39 : decode method_4_code 39 = .ok (.if_icmp .ne 26, 3) := by decide +kernel
theorem d_4_42 : decode method_4_code 42 = .ok (.new 7, 3) := by decide +kernel
theorem d_4_45 : decode method_4_code 45 = .ok (.dup, 1) := by decide +kernel
theorem d_4_46 : decode method_4_code 46 = .ok (.iconst 2, 1) := by decide +kernel
theorem d_4_47 : decode method_4_code 47 = .ok (.newarray .char, 2) := by decide +kernel
theorem d_4_49 : decode method_4_code 49 = .ok (.dup, 1) := by decide +kernel
theorem d_4_50 : decode method_4_code 50 = .ok (.iconst 0, 1) := by decide +kernel
theorem d_4_51 : decode method_4_code 51 = .ok (.aload_n 0, 1) := by decide +kernel
theorem d_4_52 : decode method_4_code 52 = .ok (.iconst 0, 1) := by decide +kernel
theorem d_4_53 : decode method_4_code 53 = .ok (.caload, 1) := by decide +kernel
theorem d_4_54 : decode method_4_code 54 = .ok (.castore, 1) := by decide +kernel
theorem d_4_55 : decode method_4_code 55 = .ok (.dup, 1) := by decide +kernel
theorem d_4_56 : decode method_4_code 56 = .ok (.iconst 1, 1) := by decide +kernel
theorem d_4_57 : decode method_4_code 57 = .ok (.aload_n 0, 1) := by decide +kernel
theorem d_4_58 : decode method_4_code 58 = .ok (.iconst 1, 1) := by decide +kernel
theorem d_4_59 : decode method_4_code 59 = .ok (.caload, 1) := by decide +kernel
theorem d_4_60 : decode method_4_code 60 = .ok (.castore, 1) := by decide +kernel
theorem d_4_61 : decode method_4_code 61 = .ok (.invokespecial 9, 3) := by decide +kernel
theorem d_4_64 : decode method_4_code 64 = .ok (.areturn, 1) := by decide +kernel
theorem d_4_65 : decode method_4_code 65 = .ok (.iload_n 1, 1) := by decide +kernel
theorem d_4_66 : decode method_4_code 66 = .ok (.iconst 3, 1) := by decide +kernel
theorem d_4_67 : decode method_4_code 67 = .ok (.if_icmp .ne 32, 3) := by decide +kernel
theorem d_4_70 : decode method_4_code 70 = .ok (.new 7, 3) := by decide +kernel
theorem d_4_73 : decode method_4_code 73 = .ok (.dup, 1) := by decide +kernel
theorem d_4_74 : decode method_4_code 74 = .ok (.iconst 3, 1) := by decide +kernel
theorem d_4_75 : decode method_4_code 75 = .ok (.newarray .char, 2) := by decide +kernel
theorem d_4_77 : decode method_4_code 77 = .ok (.dup, 1) := by decide +kernel
theorem d_4_78 : decode method_4_code 78 = .ok (.iconst 0, 1) := by decide +kernel
theorem d_4_79 : decode method_4_code 79 = .ok (.aload_n 0, 1) := by decide +kernel
theorem d_4_80 : decode method_4_code 80 = .ok (.iconst 0, 1) := by decide +kernel
theorem d_4_81 : decode method_4_code 81 = .ok (.caload, 1) := by decide +kernel
theorem d_4_82 : decode method_4_code 82 = .ok (.castore, 1) := by decide +kernel
theorem d_4_83 : decode method_4_code 83 = .ok (.dup, 1) := by decide +kernel
theorem d_4_84 : decode method_4_code 84 = .ok (.iconst 1, 1) := by decide +kernel
theorem d_4_85 : decode method_4_code 85 = .ok (.aload_n 0, 1) := by decide +kernel
theorem d_4_86 : decode method_4_code 86 = .ok (.iconst 1, 1) := by decide +kernel
theorem d_4_87 : decode method_4_code 87 = .ok (.caload, 1) := by decide +kernel
theorem d_4_88 : decode method_4_code 88 = .ok (.castore, 1) := by decide +kernel
theorem d_4_89 : decode method_4_code 89 = .ok (.dup, 1) := by decide +kernel
theorem d_4_90 : decode method_4_code 90 = .ok (.iconst 2, 1) := by decide +kernel
theorem d_4_91 : decode method_4_code 91 = .ok (.aload_n 0, 1) := by decide +kernel
theorem d_4_92 : decode method_4_code 92 = .ok (.iconst 2, 1) := by decide +kernel
theorem d_4_93 : decode method_4_code 93 = .ok (.caload, 1) := by decide +kernel
theorem d_4_94 : decode method_4_code 94 = .ok (.castore, 1) := by decide +kernel
theorem d_4_95 : decode method_4_code 95 = .ok (.invokespecial 9, 3) := by decide +kernel
theorem d_4_98 : decode method_4_code 98 = .ok (.areturn, 1) := by decide +kernel
theorem d_4_99 : decode method_4_code 99 = .ok (.new 7, 3) := by decide +kernel
theorem d_4_102 : decode method_4_code 102 = .ok (.dup, 1) := by decide +kernel
theorem d_4_103 : decode method_4_code 103 = .ok (.iconst 4, 1) := by decide +kernel
theorem d_4_104 : decode method_4_code 104 = .ok (.newarray .char, 2) := by decide +kernel
theorem d_4_106 : decode method_4_code 106 = .ok (.dup, 1) := by decide +kernel
theorem d_4_107 : decode method_4_code 107 = .ok (.iconst 0, 1) := by decide +kernel
theorem d_4_108 : decode method_4_code 108 = .ok (.aload_n 0, 1) := by decide +kernel
theorem d_4_109 : decode method_4_code 109 = .ok (.iconst 0, 1) := by decide +kernel
theorem d_4_110 : decode method_4_code 110 = .ok (.caload, 1) := by decide +kernel
theorem d_4_111 : decode method_4_code 111 = .ok (.castore, 1) := by decide +kernel
theorem d_4_112 : decode method_4_code 112 = .ok (.dup, 1) := by decide +kernel
theorem d_4_113 : decode method_4_code 113 = .ok (.iconst 1, 1) := by decide +kernel
theorem d_4_114 : decode method_4_code 114 = .ok (.aload_n 0, 1) := by decide +kernel
theorem d_4_115 : decode method_4_code 115 = .ok (.iconst 1, 1) := by decide +kernel
theorem d_4_116 : decode method_4_code 116 = .ok (.caload, 1) := by decide +kernel
theorem d_4_117 : decode method_4_code 117 = .ok (.castore, 1) := by decide +kernel
theorem d_4_118 : decode method_4_code 118 = .ok (.dup, 1) := by decide +kernel
theorem d_4_119 : decode method_4_code 119 = .ok (.iconst 2, 1) := by decide +kernel
theorem d_4_120 : decode method_4_code 120 = .ok (.aload_n 0, 1) := by decide +kernel
theorem d_4_121 : decode method_4_code 121 = .ok (.iconst 2, 1) := by decide +kernel
theorem d_4_122 : decode method_4_code 122 = .ok (.caload, 1) := by decide +kernel
theorem d_4_123 : decode method_4_code 123 = .ok (.castore, 1) := by decide +kernel
theorem d_4_124 : decode method_4_code 124 = .ok (.dup, 1) := by decide +kernel
theorem d_4_125 : decode method_4_code 125 = .ok (.iconst 3, 1) := by decide +kernel
theorem d_4_126 : decode method_4_code 126 = .ok (.aload_n 0, 1) := by decide +kernel
theorem d_4_127 : decode method_4_code 127 = .ok (.iconst 3, 1) := by decide +kernel
theorem d_4_128 : decode method_4_code 128 = .ok (.caload, 1) := by decide +kernel
theorem d_4_129 : decode method_4_code 129 = .ok (.castore, 1) := by decide +kernel
theorem d_4_130 : decode method_4_code 130 = .ok (.invokespecial 9, 3) := by decide +kernel
theorem d_4_133 : decode method_4_code 133 = .ok (.areturn, 1) := by decide +kernel
theorem ef_rm_cft (m : MethodId) (x0 : Int32) (x1 : Int32) (x2 : Int32) (x3 : Value) (hx3 : x3.isRef = true) : entryFrame m #[(.int x0), (.int x1), (.int x2), x3] 4 = mkF m 0 #[.val (.int x0), .val (.int x1), .val (.int x2), .val x3] [] := by rcases ref_cases hx3 with rfl | ⟨y3, rfl⟩ <;> first | (simp [entryFrame, mkF, argsToLocals, Value.category]; done) | rfl
theorem pn_3 : plainName "jdk/internal/util/Preconditions" = true := by first | (simp [plainName, overriddenIn]; done) | decide +kernel
theorem d_jdk_41_12_0 : decode jdk_41_method_12_code 0 = .ok (.iload_n 0, 1) := by decide +kernel
theorem d_jdk_41_12_1 : decode jdk_41_method_12_code 1 = .ok (.ifCond .lt 13, 3) := by decide +kernel
theorem d_jdk_41_12_4 : decode jdk_41_method_12_code 4 = .ok (.iload_n 0, 1) := by decide +kernel
theorem d_jdk_41_12_5 : decode jdk_41_method_12_code 5 = .ok (.iload_n 1, 1) := by decide +kernel
theorem d_jdk_41_12_6 : decode jdk_41_method_12_code 6 = .ok (.if_icmp .gt 8, 3) := by decide +kernel
theorem d_jdk_41_12_9 : decode jdk_41_method_12_code 9 = .ok (.iload_n 1, 1) := by decide +kernel
theorem d_jdk_41_12_10 : decode jdk_41_method_12_code 10 = .ok (.iload_n 2, 1) := by decide +kernel
theorem d_jdk_41_12_11 : decode jdk_41_method_12_code 11 = .ok (.if_icmp .le 11, 3) := by decide +kernel
theorem d_jdk_41_12_22 : decode jdk_41_method_12_code 22 = .ok (.iload_n 0, 1) := by decide +kernel
theorem d_jdk_41_12_23 : decode jdk_41_method_12_code 23 = .ok (.ireturn, 1) := by decide +kernel
theorem ef_rm_cbb (m : MethodId) (x0 : Int32) (x1 : Int32) (x2 : Int32) : entryFrame m #[(.int x0), (.int x1), (.int x2)] 3 = mkF m 0 #[.val (.int x0), .val (.int x1), .val (.int x2)] [] := by first | (simp [entryFrame, mkF, argsToLocals, Value.category]; done) | rfl
theorem d_jdk_42_158_0 : decode jdk_42_method_158_code 0 = .ok (.iload_n 0, 1) := by decide +kernel
theorem d_jdk_42_158_1 : decode jdk_42_method_158_code 1 = .ok (.iload_n 1, 1) := by decide +kernel
theorem d_jdk_42_158_2 : decode jdk_42_method_158_code 2 = .ok (.iload_n 2, 1) := by decide +kernel
theorem d_jdk_42_158_3 : decode jdk_42_method_158_code 3 = .ok (.getstatic 1053, 3) := by decide +kernel
theorem d_jdk_42_158_6 : decode jdk_42_method_158_code 6 = .ok (.invokestatic 1062, 3) := by decide +kernel
theorem pd_2 : parseMethodDescriptor "(IIILjava/util/function/BiFunction;)I" = some ⟨[.int, .int, .int, (.object "java/util/function/BiFunction")], some .int⟩ := by decide +kernel
theorem d_jdk_42_158_9 : decode jdk_42_method_158_code 9 = .ok (.pop, 1) := by decide +kernel
theorem d_jdk_42_158_10 : decode jdk_42_method_158_code 10 = .ok (.return_, 1) := by decide +kernel
theorem ef_rm_isl (m : MethodId) (x0 : Addr) : entryFrame m #[(.ref x0)] 1 = mkF m 0 #[.val (.ref x0)] [] := by first | (simp [entryFrame, mkF, argsToLocals, Value.category]; done) | rfl
theorem d_jdk_42_154_0 : decode jdk_42_method_154_code 0 = .ok (.getstatic 38, 3) := by decide +kernel
theorem d_jdk_42_154_3 : decode jdk_42_method_154_code 3 = .ok (.ifCond .eq 14, 3) := by decide +kernel
theorem d_jdk_42_154_6 : decode jdk_42_method_154_code 6 = .ok (.aload_n 0, 1) := by decide +kernel
theorem d_jdk_42_154_7 : decode jdk_42_method_154_code 7 = .ok (.getfield 15, 3) := by decide +kernel
theorem d_jdk_42_154_10 : decode jdk_42_method_154_code 10 = .ok (.ifCond .ne 7, 3) := by decide +kernel
theorem d_jdk_42_154_13 : decode jdk_42_method_154_code 13 = .ok (.iconst 1, 1) := by decide +kernel
theorem d_jdk_42_154_14 : decode jdk_42_method_154_code 14 = .ok (.goto 4, 3) := by decide +kernel
theorem d_jdk_42_154_18 : decode jdk_42_method_154_code 18 = .ok (.ireturn, 1) := by decide +kernel
theorem ef_rm_min (m : MethodId) (x0 : Int32) (x1 : Int32) : entryFrame m #[(.int x0), (.int x1)] 2 = mkF m 0 #[.val (.int x0), .val (.int x1)] [] := by first | (simp [entryFrame, mkF, argsToLocals, Value.category]; done) | rfl
theorem d_jdk_29_69_0 : decode jdk_29_method_69_code 0 = .ok (.iload_n 0, 1) := by decide +kernel
theorem d_jdk_29_69_1 : decode jdk_29_method_69_code 1 = .ok (.iload_n 1, 1) := by decide +kernel
theorem d_jdk_29_69_2 : decode jdk_29_method_69_code 2 = .ok (.if_icmp .gt 7, 3) := by decide +kernel
theorem d_jdk_29_69_9 : decode jdk_29_method_69_code 9 = .ok (.iload_n 1, 1) := by decide +kernel
theorem d_jdk_29_69_10 : decode jdk_29_method_69_code 10 = .ok (.ireturn, 1) := by decide +kernel
theorem d_jdk_29_69_5 : decode jdk_29_method_69_code 5 = .ok (.iload_n 0, 1) := by decide +kernel
theorem d_jdk_29_69_6 : decode jdk_29_method_69_code 6 = .ok (.goto 4, 3) := by decide +kernel
theorem ef_rm_ckl (m : MethodId) (x0 : Int32) (x1 : Int32) : entryFrame m #[(.int x0), (.int x1)] 2 = mkF m 0 #[.val (.int x0), .val (.int x1)] [] := by first | (simp [entryFrame, mkF, argsToLocals, Value.category]; done) | rfl
theorem pn_4 : plainName "java/util/Arrays" = true := by first | (simp [plainName, overriddenIn]; done) | decide +kernel
theorem d_jdk_65_131_0 : decode jdk_65_method_131_code 0 = .ok (.iload_n 1, 1) := by decide +kernel
theorem d_jdk_65_131_1 : decode jdk_65_method_131_code 1 = .ok (.iload_n 0, 1) := by decide +kernel
theorem d_jdk_65_131_2 : decode jdk_65_method_131_code 2 = .ok (.if_icmp .ge 35, 3) := by decide +kernel
theorem d_jdk_65_131_37 : decode jdk_65_method_131_code 37 = .ok (.return_, 1) := by decide +kernel
theorem ef_rm_crb (m : MethodId) (x0 : Addr) (x1 : Int32) (x2 : Int32) : entryFrame m #[(.ref x0), (.int x1), (.int x2)] 5 = mkF m 0 #[.val (.ref x0), .val (.int x1), .val (.int x2), .unset, .unset] [] := by first | (simp [entryFrame, mkF, argsToLocals, Value.category]; done) | rfl
theorem d_jdk_65_133_0 : decode jdk_65_method_133_code 0 = .ok (.iload_n 1, 1) := by decide +kernel
theorem d_jdk_65_133_1 : decode jdk_65_method_133_code 1 = .ok (.iload_n 2, 1) := by decide +kernel
theorem d_jdk_65_133_2 : decode jdk_65_method_133_code 2 = .ok (.invokestatic 343, 3) := by decide +kernel
theorem pd_3 : parseMethodDescriptor "(II)V" = some ⟨[.int, .int], none⟩ := by decide +kernel
theorem d_jdk_65_133_5 : decode jdk_65_method_133_code 5 = .ok (.iload_n 2, 1) := by decide +kernel
theorem d_jdk_65_133_6 : decode jdk_65_method_133_code 6 = .ok (.iload_n 1, 1) := by decide +kernel
theorem d_jdk_65_133_7 : decode jdk_65_method_133_code 7 = .ok (.isub, 1) := by decide +kernel
theorem d_jdk_65_133_8 : decode jdk_65_method_133_code 8 = .ok (.istore_n 3, 1) := by decide +kernel
theorem d_jdk_65_133_9 : decode jdk_65_method_133_code 9 = .ok (.iload_n 3, 1) := by decide +kernel
theorem d_jdk_65_133_10 : decode jdk_65_method_133_code 10 = .ok (.newarray .byte, 2) := by decide +kernel
theorem d_jdk_65_133_12 : decode jdk_65_method_133_code 12 = .ok (.astore 4, 2) := by decide +kernel
theorem d_jdk_65_133_14 : decode jdk_65_method_133_code 14 = .ok (.aload_n 0, 1) := by decide +kernel
theorem d_jdk_65_133_15 : decode jdk_65_method_133_code 15 = .ok (.iload_n 1, 1) := by decide +kernel
theorem d_jdk_65_133_16 : decode jdk_65_method_133_code 16 = .ok (.aload 4, 2) := by decide +kernel
theorem d_jdk_65_133_18 : decode jdk_65_method_133_code 18 = .ok (.iconst 0, 1) := by decide +kernel
theorem d_jdk_65_133_19 : decode jdk_65_method_133_code 19 = .ok (.aload_n 0, 1) := by decide +kernel
theorem d_jdk_65_133_20 : decode jdk_65_method_133_code 20 = .ok (.arraylength, 1) := by decide +kernel
theorem d_jdk_65_133_21 : decode jdk_65_method_133_code 21 = .ok (.iload_n 1, 1) := by decide +kernel
theorem d_jdk_65_133_22 : decode jdk_65_method_133_code 22 = .ok (.isub, 1) := by decide +kernel
theorem d_jdk_65_133_23 : decode jdk_65_method_133_code 23 = .ok (.iload_n 3, 1) := by decide +kernel
theorem d_jdk_65_133_24 : decode jdk_65_method_133_code 24 = .ok (.invokestatic 304, 3) := by decide +kernel
theorem pd_4 : parseMethodDescriptor "(II)I" = some ⟨[.int, .int], some .int⟩ := by decide +kernel
theorem d_jdk_65_133_27 : decode jdk_65_method_133_code 27 = .ok (.invokestatic 150, 3) := by decide +kernel
theorem d_jdk_65_133_30 : decode jdk_65_method_133_code 30 = .ok (.aload 4, 2) := by decide +kernel
theorem d_jdk_65_133_32 : decode jdk_65_method_133_code 32 = .ok (.areturn, 1) := by decide +kernel
theorem ef_rm_cor (m : MethodId) (x0 : Addr) (x1 : Int32) (x2 : Int32) : entryFrame m #[(.ref x0), (.int x1), (.int x2)] 3 = mkF m 0 #[.val (.ref x0), .val (.int x1), .val (.int x2)] [] := by first | (simp [entryFrame, mkF, argsToLocals, Value.category]; done) | rfl
theorem d_jdk_65_132_0 : decode jdk_65_method_132_code 0 = .ok (.iload_n 1, 1) := by decide +kernel
theorem d_jdk_65_132_1 : decode jdk_65_method_132_code 1 = .ok (.ifCond .ne 9, 3) := by decide +kernel
theorem d_jdk_65_132_4 : decode jdk_65_method_132_code 4 = .ok (.iload_n 2, 1) := by decide +kernel
theorem d_jdk_65_132_5 : decode jdk_65_method_132_code 5 = .ok (.aload_n 0, 1) := by decide +kernel
theorem d_jdk_65_132_6 : decode jdk_65_method_132_code 6 = .ok (.arraylength, 1) := by decide +kernel
theorem d_jdk_65_132_7 : decode jdk_65_method_132_code 7 = .ok (.if_icmp .eq 10, 3) := by decide +kernel
theorem d_jdk_65_132_10 : decode jdk_65_method_132_code 10 = .ok (.aload_n 0, 1) := by decide +kernel
theorem d_jdk_65_132_11 : decode jdk_65_method_132_code 11 = .ok (.iload_n 1, 1) := by decide +kernel
theorem d_jdk_65_132_12 : decode jdk_65_method_132_code 12 = .ok (.iload_n 2, 1) := by decide +kernel
theorem d_jdk_65_132_13 : decode jdk_65_method_132_code 13 = .ok (.invokestatic 339, 3) := by decide +kernel
theorem pd_5 : parseMethodDescriptor "([BII)[B" = some ⟨[(.array .byte), .int, .int], some (.array .byte)⟩ := by decide +kernel
theorem d_jdk_65_132_16 : decode jdk_65_method_132_code 16 = .ok (.areturn, 1) := by decide +kernel
theorem ef_rm_sbb (m : MethodId) (x0 : Addr) (x1 : Addr) (x2 : Int32) : entryFrame m #[(.ref x0), (.ref x1), (.int x2)] 3 = mkF m 0 #[.val (.ref x0), .val (.ref x1), .val (.int x2)] [] := by first | (simp [entryFrame, mkF, argsToLocals, Value.category]; done) | rfl
theorem d_jdk_42_151_0 : decode jdk_42_method_151_code 0 = .ok (.aload_n 0, 1) := by decide +kernel
theorem d_jdk_42_151_1 : decode jdk_42_method_151_code 1 = .ok (.invokespecial 1, 3) := by decide +kernel
theorem d_jdk_42_151_4 : decode jdk_42_method_151_code 4 = .ok (.aload_n 0, 1) := by decide +kernel
theorem d_jdk_42_151_5 : decode jdk_42_method_151_code 5 = .ok (.aload_n 1, 1) := by decide +kernel
theorem d_jdk_42_151_6 : decode jdk_42_method_151_code 6 = .ok (.putfield 9, 3) := by decide +kernel
theorem d_jdk_42_151_9 : decode jdk_42_method_151_code 9 = .ok (.aload_n 0, 1) := by decide +kernel
theorem d_jdk_42_151_10 : decode jdk_42_method_151_code 10 = .ok (.iload_n 2, 1) := by decide +kernel
theorem d_jdk_42_151_11 : decode jdk_42_method_151_code 11 = .ok (.putfield 15, 3) := by decide +kernel
theorem d_jdk_42_151_14 : decode jdk_42_method_151_code 14 = .ok (.return_, 1) := by decide +kernel
theorem ef_rm_ns (m : MethodId) (x0 : Addr) (x1 : Int32) (x2 : Int32) : entryFrame m #[(.ref x0), (.int x1), (.int x2)] 3 = mkF m 0 #[.val (.ref x0), .val (.int x1), .val (.int x2)] [] := by first | (simp [entryFrame, mkF, argsToLocals, Value.category]; done) | rfl
theorem pn_5 : plainName "java/lang/StringLatin1" = true := by first | (simp [plainName, overriddenIn]; done) | decide +kernel
theorem d_jdk_43_47_0 : decode jdk_43_method_47_code 0 = .ok (.iload_n 2, 1) := by decide +kernel
theorem d_jdk_43_47_1 : decode jdk_43_method_47_code 1 = .ok (.ifCond .ne 6, 3) := by decide +kernel
theorem d_jdk_43_47_4 : decode jdk_43_method_47_code 4 = .ok (.ldc 151, 2) := by decide +kernel
theorem d_jdk_43_47_6 : decode jdk_43_method_47_code 6 = .ok (.areturn, 1) := by decide +kernel
theorem d_jdk_43_47_7 : decode jdk_43_method_47_code 7 = .ok (.new 1, 3) := by decide +kernel
theorem d_jdk_43_47_10 : decode jdk_43_method_47_code 10 = .ok (.dup, 1) := by decide +kernel
theorem d_jdk_43_47_11 : decode jdk_43_method_47_code 11 = .ok (.aload_n 0, 1) := by decide +kernel
theorem d_jdk_43_47_12 : decode jdk_43_method_47_code 12 = .ok (.iload_n 1, 1) := by decide +kernel
theorem d_jdk_43_47_13 : decode jdk_43_method_47_code 13 = .ok (.iload_n 1, 1) := by decide +kernel
theorem d_jdk_43_47_14 : decode jdk_43_method_47_code 14 = .ok (.iload_n 2, 1) := by decide +kernel
theorem d_jdk_43_47_15 : decode jdk_43_method_47_code 15 = .ok (.iadd, 1) := by decide +kernel
theorem d_jdk_43_47_16 : decode jdk_43_method_47_code 16 = .ok (.invokestatic 232, 3) := by decide +kernel
theorem d_jdk_43_47_19 : decode jdk_43_method_47_code 19 = .ok (.iconst 0, 1) := by decide +kernel
theorem d_jdk_43_47_20 : decode jdk_43_method_47_code 20 = .ok (.invokespecial 112, 3) := by decide +kernel
theorem pd_6 : parseMethodDescriptor "([BB)V" = some ⟨[(.array .byte), .byte], none⟩ := by decide +kernel
theorem d_jdk_43_47_23 : decode jdk_43_method_47_code 23 = .ok (.areturn, 1) := by decide +kernel
theorem ef_rm_sub (m : MethodId) (x0 : Addr) (x1 : Int32) (x2 : Int32) : entryFrame m #[(.ref x0), (.int x1), (.int x2)] 5 = mkF m 0 #[.val (.ref x0), .val (.int x1), .val (.int x2), .unset, .unset] [] := by first | (simp [entryFrame, mkF, argsToLocals, Value.category]; done) | rfl
theorem d_jdk_42_92_0 : decode jdk_42_method_92_code 0 = .ok (.aload_n 0, 1) := by decide +kernel
theorem d_jdk_42_92_1 : decode jdk_42_method_92_code 1 = .ok (.invokevirtual 505, 3) := by decide +kernel
theorem d_jdk_42_92_4 : decode jdk_42_method_92_code 4 = .ok (.istore_n 3, 1) := by decide +kernel
theorem d_jdk_42_92_5 : decode jdk_42_method_92_code 5 = .ok (.iload_n 1, 1) := by decide +kernel
theorem d_jdk_42_92_6 : decode jdk_42_method_92_code 6 = .ok (.iload_n 2, 1) := by decide +kernel
theorem d_jdk_42_92_7 : decode jdk_42_method_92_code 7 = .ok (.iload_n 3, 1) := by decide +kernel
theorem d_jdk_42_92_8 : decode jdk_42_method_92_code 8 = .ok (.invokestatic 521, 3) := by decide +kernel
theorem pd_7 : parseMethodDescriptor "(III)V" = some ⟨[.int, .int, .int], none⟩ := by decide +kernel
theorem d_jdk_42_92_11 : decode jdk_42_method_92_code 11 = .ok (.iload_n 1, 1) := by decide +kernel
theorem d_jdk_42_92_12 : decode jdk_42_method_92_code 12 = .ok (.ifCond .ne 10, 3) := by decide +kernel
theorem d_jdk_42_92_15 : decode jdk_42_method_92_code 15 = .ok (.iload_n 2, 1) := by decide +kernel
theorem d_jdk_42_92_16 : decode jdk_42_method_92_code 16 = .ok (.iload_n 3, 1) := by decide +kernel
theorem d_jdk_42_92_17 : decode jdk_42_method_92_code 17 = .ok (.if_icmp .ne 5, 3) := by decide +kernel
theorem d_jdk_42_92_20 : decode jdk_42_method_92_code 20 = .ok (.aload_n 0, 1) := by decide +kernel
theorem d_jdk_42_92_21 : decode jdk_42_method_92_code 21 = .ok (.areturn, 1) := by decide +kernel
theorem d_jdk_42_92_22 : decode jdk_42_method_92_code 22 = .ok (.iload_n 2, 1) := by decide +kernel
theorem d_jdk_42_92_23 : decode jdk_42_method_92_code 23 = .ok (.iload_n 1, 1) := by decide +kernel
theorem d_jdk_42_92_24 : decode jdk_42_method_92_code 24 = .ok (.isub, 1) := by decide +kernel
theorem d_jdk_42_92_25 : decode jdk_42_method_92_code 25 = .ok (.istore 4, 2) := by decide +kernel
theorem d_jdk_42_92_27 : decode jdk_42_method_92_code 27 = .ok (.aload_n 0, 1) := by decide +kernel
theorem d_jdk_42_92_28 : decode jdk_42_method_92_code 28 = .ok (.invokevirtual 492, 3) := by decide +kernel
theorem pd_8 : parseMethodDescriptor "()Z" = some ⟨[], some .boolean⟩ := by decide +kernel
theorem d_jdk_42_92_31 : decode jdk_42_method_92_code 31 = .ok (.ifCond .eq 16, 3) := by decide +kernel
theorem d_jdk_42_92_34 : decode jdk_42_method_92_code 34 = .ok (.aload_n 0, 1) := by decide +kernel
theorem d_jdk_42_92_35 : decode jdk_42_method_92_code 35 = .ok (.getfield 9, 3) := by decide +kernel
theorem d_jdk_42_92_38 : decode jdk_42_method_92_code 38 = .ok (.iload_n 1, 1) := by decide +kernel
theorem d_jdk_42_92_39 : decode jdk_42_method_92_code 39 = .ok (.iload 4, 2) := by decide +kernel
theorem d_jdk_42_92_41 : decode jdk_42_method_92_code 41 = .ok (.invokestatic 685, 3) := by decide +kernel
theorem pd_9 : parseMethodDescriptor "([BII)Ljava/lang/String;" = some ⟨[(.array .byte), .int, .int], some (.object "java/lang/String")⟩ := by decide +kernel
theorem d_jdk_42_92_44 : decode jdk_42_method_92_code 44 = .ok (.goto 13, 3) := by decide +kernel
theorem d_jdk_42_92_57 : decode jdk_42_method_92_code 57 = .ok (.areturn, 1) := by decide +kernel
theorem ef_rm_trim (m : MethodId) (x0 : Addr) : entryFrame m #[(.ref x0)] 3 = mkF m 0 #[.val (.ref x0), .unset, .unset] [] := by first | (simp [entryFrame, mkF, argsToLocals, Value.category]; done) | rfl
theorem d_prog_25_11_29 : decode prog_25_method_11_code 29 = .ok (.iload_n 2, 1) := by decide +kernel
theorem d_prog_25_11_30 : decode prog_25_method_11_code 30 = .ok (.iload_n 1, 1) := by decide +kernel
theorem d_prog_25_11_31 : decode prog_25_method_11_code 31 = .ok (.if_icmp .le 22, 3) := by decide +kernel
theorem d_prog_25_11_53 : decode prog_25_method_11_code 53 = .ok (.aload_n 0, 1) := by decide +kernel
theorem d_prog_25_11_54 : decode prog_25_method_11_code 54 = .ok (.iload_n 1, 1) := by decide +kernel
theorem d_prog_25_11_55 : decode prog_25_method_11_code 55 = .ok (.iload_n 2, 1) := by decide +kernel
theorem d_prog_25_11_56 : decode prog_25_method_11_code 56 = .ok (.invokevirtual 49, 3) := by decide +kernel
theorem pd_10 : parseMethodDescriptor "(II)Ljava/lang/String;" = some ⟨[.int, .int], some (.object "java/lang/String")⟩ := by decide +kernel
theorem d_prog_25_11_59 : decode prog_25_method_11_code 59 = .ok (.areturn, 1) := by decide +kernel
theorem d_prog_25_11_34 : decode prog_25_method_11_code 34 = .ok (.aload_n 0, 1) := by decide +kernel
theorem d_prog_25_11_35 : decode prog_25_method_11_code 35 = .ok (.iload_n 2, 1) := by decide +kernel
theorem d_prog_25_11_36 : decode prog_25_method_11_code 36 = .ok (.iconst 1, 1) := by decide +kernel
theorem d_prog_25_11_37 : decode prog_25_method_11_code 37 = .ok (.isub, 1) := by decide +kernel
theorem d_prog_25_11_38 : decode prog_25_method_11_code 38 = .ok (.invokevirtual 271, 3) := by decide +kernel
theorem d_prog_25_11_41 : decode prog_25_method_11_code 41 = .ok (.invokestatic 275, 3) := by decide +kernel
theorem pd_11 : parseMethodDescriptor "(C)Z" = some ⟨[.char], some .boolean⟩ := by decide +kernel
theorem d_prog_25_11_44 : decode prog_25_method_11_code 44 = .ok (.ifCond .eq 9, 3) := by decide +kernel
theorem d_prog_25_11_47 : decode prog_25_method_11_code 47 = .ok (.iinc 2 (-1), 3) := by decide +kernel
theorem d_prog_25_11_50 : decode prog_25_method_11_code 50 = .ok (.goto (-21), 3) := by decide +kernel
theorem d_prog_25_11_7 : decode prog_25_method_11_code 7 = .ok (.iload_n 1, 1) := by decide +kernel
theorem d_prog_25_11_8 : decode prog_25_method_11_code 8 = .ok (.iload_n 2, 1) := by decide +kernel
theorem d_prog_25_11_9 : decode prog_25_method_11_code 9 = .ok (.if_icmp .ge 20, 3) := by decide +kernel
theorem d_prog_25_11_12 : decode prog_25_method_11_code 12 = .ok (.aload_n 0, 1) := by decide +kernel
theorem d_prog_25_11_13 : decode prog_25_method_11_code 13 = .ok (.iload_n 1, 1) := by decide +kernel
theorem d_prog_25_11_14 : decode prog_25_method_11_code 14 = .ok (.invokevirtual 271, 3) := by decide +kernel
theorem d_prog_25_11_17 : decode prog_25_method_11_code 17 = .ok (.invokestatic 275, 3) := by decide +kernel
theorem d_prog_25_11_20 : decode prog_25_method_11_code 20 = .ok (.ifCond .eq 9, 3) := by decide +kernel
theorem d_prog_25_11_23 : decode prog_25_method_11_code 23 = .ok (.iinc 1 1, 3) := by decide +kernel
theorem d_prog_25_11_26 : decode prog_25_method_11_code 26 = .ok (.goto (-19), 3) := by decide +kernel
theorem d_prog_25_11_0 : decode prog_25_method_11_code 0 = .ok (.iconst 0, 1) := by decide +kernel
theorem d_prog_25_11_1 : decode prog_25_method_11_code 1 = .ok (.istore_n 1, 1) := by decide +kernel
theorem d_prog_25_11_2 : decode prog_25_method_11_code 2 = .ok (.aload_n 0, 1) := by decide +kernel
theorem d_prog_25_11_3 : decode prog_25_method_11_code 3 = .ok (.invokevirtual 60, 3) := by decide +kernel
theorem d_prog_25_11_6 : decode prog_25_method_11_code 6 = .ok (.istore_n 2, 1) := by decide +kernel
theorem ef_rm_law (m : MethodId) (x0 : Int32) (x1 : Int32) (x2 : Int32) (x3 : Int32) (x4 : Int32) : entryFrame m #[(.int x0), (.int x1), (.int x2), (.int x3), (.int x4)] maxLocals = mkF m 0 #[.val (.int x0), .val (.int x1), .val (.int x2), .val (.int x3), .val (.int x4), .unset, .unset, .unset, .unset, .unset, .unset, .unset, .unset] [] := by first | (simp [entryFrame, mkF, argsToLocals, Value.category, maxLocals]; done) | rfl
theorem pd_12 : parseMethodDescriptor "([CI)Ljava/lang/String;" = some ⟨[(.array .char), .int], some (.object "java/lang/String")⟩ := by decide +kernel
theorem pd_13 : parseMethodDescriptor "(Ljava/lang/String;)Ljava/lang/String;" = some ⟨[(.object "java/lang/String")], some (.object "java/lang/String")⟩ := by decide +kernel
theorem pd_14 : parseMethodDescriptor "([CII)Z" = some ⟨[(.array .char), .int, .int], some .boolean⟩ := by decide +kernel
theorem pd_15 : parseMethodDescriptor "(I)C" = some ⟨[.int], some .char⟩ := by decide +kernel
def ELx : List (String × Nat) := [("java/lang/String", 7), ("java/lang/StringLatin1", 151)]
theorem own_hst {a0 : Array Value} {Z : State} (hw : ∀ d ∈ tables_1, d.before a0 Z = true) : ∀ a ∈ Bundle.stringAtoms, a.before a0 Z = true := fun a ha => hw a ((by decide +kernel : ∀ d ∈ Bundle.stringAtoms, d ∈ tables_1) a ha)
theorem own_hws {a0 : Array Value} {Z : State} (hw : ∀ d ∈ tables_1, d.before a0 Z = true) : ∀ d ∈ StrChars.Road.words, d.before a0 Z = true := fun d hd => hw d ((by decide +kernel : ∀ d ∈ StrChars.Road.words, d ∈ tables_1) d hd)
theorem own_start {tb : Tables} {e : Env} {s : State} {a0 : Array Value} (hE : EW s a0 ELx) (hcalls : Calls_1 tb e a0 s) (hc : (Jvm.Cond.not (Jvm.Cond.eq (Jvm.Term.static "java/lang/String" "COMPACT_STRINGS" "Z") (Jvm.Term.int (0 : Int32)))).before a0 s = true) (wa : (Jvm.Cond.arrayClass .byte).before a0 s = true) (wi : (Jvm.Cond.instantiable "java/lang/String" 4).before a0 s = true) : CHv s ELx s.vm s.heap :=
  CHv.start hE (fun p hp => hcalls.1 p hp) hc wa wi
theorem all0c {P : Int32 → Prop} : ∀ x ∈ ([] : List Int32), P x := fun _ q => nomatch q
theorem allC {P : Int32 → Prop} {y : Int32} {L : List Int32} (q : P y) (r : ∀ x ∈ L, P x) : ∀ x ∈ y :: L, P x := fun x z => (List.mem_cons.mp z).elim (fun u => u ▸ q) (r x)
theorem own_i255 : (255 : Int32).toInt = 255 := by decide
theorem own_i0 : (0 : Int32).toInt = 0 := by decide
theorem own_ch (x : Int32) : ¬ ((x &&& (255 : Int32)).toUInt32.toUInt16.toUInt32.toInt32) < 0 ∧ ¬ (255 : Int32) < ((x &&& (255 : Int32)).toUInt32.toUInt16.toUInt32.toInt32) := by
  rw [i2c_mask]
  have h := c_and x (255 : Int32) (by decide)
  simp only [Int32.lt_iff_toInt_lt, own_i255, own_i0] at *; omega
theorem own_narc {x : Int32} (h : ¬ x < 0 ∧ ¬ (255 : Int32) < x) : nar .char x = x := by
  have c := c_i2c x
  have r := rng32 x
  simp only [Int32.lt_iff_toInt_lt, own_i255, own_i0] at h
  apply Int32.toInt_inj.mp
  show (x.toUInt32.toUInt16.toUInt32.toInt32).toInt = x.toInt
  omega
theorem own_rngm (x d : Int32) (h0 : 0 ≤ x.toInt) (hd : 0 < d.toInt) : ¬ (x % d) < 0 ∧ (x % d) < d := by
  have h2 := (c_iremV x d).1 h0 hd
  simp only [Int32.lt_iff_toInt_lt, own_i0]; omega
theorem own_hE {a0 : Array Value} {Z : State} (hw : ∀ d ∈ tables_1, d.before a0 Z = true) : EW Z a0 ELx := EW.cons (text := "") (ow hw 22 rfl) (by decide) (EW.cons (text := "") (ow hw 122 rfl) (by decide) EW.nil)
theorem own_hwl {a0 : Array Value} {Z : State} (hw : ∀ d ∈ tables_1, d.before a0 Z = true) : ∀ d ∈ StrChars.Road.wordsLen, d.before a0 Z = true := fun d hd => hw d ((by decide +kernel : ∀ d ∈ StrChars.Road.wordsLen, d ∈ tables_1) d hd)
theorem own_hwc {a0 : Array Value} {Z : State} (hw : ∀ d ∈ tables_1, d.before a0 Z = true) : ∀ d ∈ StrChars.Road.wordsChN, d.before a0 Z = true := fun d hd => hw d ((by decide +kernel : ∀ d ∈ StrChars.Road.wordsChN, d ∈ tables_1) d hd)
theorem own_on {n : Nat} (h : n ≤ 4000) : (Int32.ofNat n).toInt = n := Int32.toInt_ofNat_small (by omega)
theorem own_onc {n : Nat} (h : n ≤ 4000) : (Int32.ofNat n).toNatClampNeg = n := by unfold Int32.toNatClampNeg; rw [own_on h]; omega
theorem own_on0 {n : Nat} (h : n ≤ 4000) : ¬ Int32.ofNat n < 0 := by rw [Int32.lt_iff_toInt_lt, own_on h, own_i0]; omega
theorem own_onlt {a b : Nat} (ha : a ≤ 4000) (hb : b ≤ 4000) : Int32.ofNat a < Int32.ofNat b ↔ a < b := by rw [Int32.lt_iff_toInt_lt, own_on ha, own_on hb]; omega
theorem own_oneq {a b : Nat} (ha : a ≤ 4000) (hb : b ≤ 4000) : Int32.ofNat a = Int32.ofNat b ↔ a = b := by rw [← Int32.toInt_inj, own_on ha, own_on hb]; omega
theorem own_onz {a : Nat} (ha : a ≤ 4000) : Int32.ofNat a = (0 : Int32) ↔ a = 0 := by rw [← Int32.toInt_inj, own_on ha, own_i0]; omega
theorem own_onadd (a b : Nat) : Int32.ofNat a + Int32.ofNat b = Int32.ofNat (a + b) := by
  apply Int32.toBitVec_inj.mp
  simp [Int32.toBitVec_add, Int32.toBitVec_ofNat']
theorem own_onsub {a b : Nat} (hb : b ≤ a) (ha : a ≤ 4000) : Int32.ofNat a - Int32.ofNat b = Int32.ofNat (a - b) := by
  apply Int32.toInt_inj.mp
  have c := c_isub (Int32.ofNat a) (Int32.ofNat b)
  have r := rng32 (Int32.ofNat a - Int32.ofNat b)
  rw [own_on ha, own_on (Nat.le_trans hb ha)] at c
  rw [own_on (by omega)]
  omega
theorem own_onm1 {a : Nat} (hb : 1 ≤ a) (ha : a ≤ 4000) : Int32.ofNat a + (-1 : Int32) = Int32.ofNat (a - 1) := by
  apply Int32.toInt_inj.mp
  have c := c_iadd (Int32.ofNat a) (-1)
  have r := rng32 (Int32.ofNat a + (-1))
  have e : (-1 : Int32).toInt = -1 := by decide
  rw [own_on ha, e] at c
  rw [own_on (by omega)]
  omega
def own_bl (c : Int32) : Bool := c == 32 || c == 9
def own_draw (x : Int32) : Int32 := if (x &&& (3 : Int32)) = 0 then 32 else if (x &&& (3 : Int32)) = 1 then 9 else ((((x.toUInt32 >>> ((2 : Int32) &&& 31).toUInt32).toInt32) &&& (255 : Int32)).toUInt32.toUInt16.toUInt32.toInt32)
theorem own_draw_rng (x : Int32) : ¬ (own_draw x) < 0 ∧ ¬ (255 : Int32) < own_draw x := by
  unfold own_draw; split
  · decide
  · split
    · decide
    · exact own_ch _
theorem own_draw_nar (x : Int32) : nar .char (own_draw x) = own_draw x := own_narc (own_draw_rng x)
def own_tk (n c0 c1 c2 c3 : Int32) : List Int32 := if n = 0 then [] else if n = 1 then [c0] else if n = 2 then [c0, c1] else if n = 3 then [c0, c1, c2] else [c0, c1, c2, c3]
theorem own_tklen (n c0 c1 c2 c3 : Int32) : (own_tk n c0 c1 c2 c3).length ≤ 4 := by
  unfold own_tk; repeat' split
  all_goals simp
theorem own_tkrng {n c0 c1 c2 c3 : Int32} (h0 : ¬ c0 < 0 ∧ ¬ (255 : Int32) < c0) (h1 : ¬ c1 < 0 ∧ ¬ (255 : Int32) < c1) (h2 : ¬ c2 < 0 ∧ ¬ (255 : Int32) < c2) (h3 : ¬ c3 < 0 ∧ ¬ (255 : Int32) < c3) : ∀ c ∈ own_tk n c0 c1 c2 c3, ¬ c < 0 ∧ ¬ (255 : Int32) < c := by
  unfold own_tk
  by_cases q0 : n = 0
  · rw [if_pos q0]; exact all0c
  by_cases q1 : n = 1
  · rw [if_neg q0, if_pos q1]; exact allC h0 all0c
  by_cases q2 : n = 2
  · rw [if_neg q0, if_neg q1, if_pos q2]; exact allC h0 (allC h1 all0c)
  by_cases q3 : n = 3
  · rw [if_neg q0, if_neg q1, if_neg q2, if_pos q3]; exact allC h0 (allC h1 (allC h2 all0c))
  rw [if_neg q0, if_neg q1, if_neg q2, if_neg q3]; exact allC h0 (allC h1 (allC h2 (allC h3 all0c)))
def own_rdw (l : List Int32) : List Int32 := (l.reverse.dropWhile own_bl).reverse
def own_trim (l : List Int32) : List Int32 := own_rdw (l.dropWhile own_bl)
def own_sta (n c0 c1 c2 c3 : Int32) : Int32 := if (0 < n ∧ own_bl c0 = false) then 0 else if (1 < n ∧ own_bl c1 = false) then 1 else if (2 < n ∧ own_bl c2 = false) then 2 else if (3 < n ∧ own_bl c3 = false) then 3 else n
def own_ege (n c0 c1 c2 c3 sg : Int32) : Int32 := if (3 < n ∧ own_bl c3 = false) then 4 else if (2 < n ∧ own_bl c2 = false) then 3 else if (1 < n ∧ own_bl c1 = false) then 2 else if (0 < n ∧ own_bl c0 = false) then 1 else sg
/-- the law's own start and end, and the trimmed list -/
theorem own_law {n c0 c1 c2 c3 : Int32} (hn : ¬ n < 0 ∧ n < 5) : ∃ (sN eN : Nat), own_sta n c0 c1 c2 c3 = Int32.ofNat sN ∧ own_ege n c0 c1 c2 c3 (own_sta n c0 c1 c2 c3) = Int32.ofNat eN ∧ sN ≤ eN ∧ eN ≤ 4 ∧ own_trim (own_tk n c0 c1 c2 c3) = (([c0, c1, c2, c3] : List Int32).drop sN).take (eN - sN) := by
  have a : n = 0 ∨ n = 1 ∨ n = 2 ∨ n = 3 ∨ n = 4 := by simp only [Int32.lt_iff_toInt_lt, ← Int32.toInt_inj, Int32.reduceToInt] at *; omega
  rcases a with rfl | rfl | rfl | rfl | rfl
  · exact ⟨0, 0, by simp [own_sta], by simp [own_sta, own_ege], by decide, by decide, by simp [own_tk, own_trim, own_rdw]⟩
  · cases b0 : own_bl c0
    · exact ⟨0, 1, by simp [own_sta, b0], by simp [own_sta, own_ege, b0], by decide, by decide, by simp [own_tk, own_trim, own_rdw, b0]⟩
    · exact ⟨1, 1, by simp [own_sta, b0], by simp [own_sta, own_ege, b0], by decide, by decide, by simp [own_tk, own_trim, own_rdw, b0]⟩
  · cases b0 : own_bl c0 <;> cases b1 : own_bl c1
    · exact ⟨0, 2, by simp [own_sta, b0, b1], by simp [own_sta, own_ege, b0, b1], by decide, by decide, by simp [own_tk, own_trim, own_rdw, b0, b1]⟩
    · exact ⟨0, 1, by simp [own_sta, b0, b1], by simp [own_sta, own_ege, b0, b1], by decide, by decide, by simp [own_tk, own_trim, own_rdw, b0, b1]⟩
    · exact ⟨1, 2, by simp [own_sta, b0, b1], by simp [own_sta, own_ege, b0, b1], by decide, by decide, by simp [own_tk, own_trim, own_rdw, b0, b1]⟩
    · exact ⟨2, 2, by simp [own_sta, b0, b1], by simp [own_sta, own_ege, b0, b1], by decide, by decide, by simp [own_tk, own_trim, own_rdw, b0, b1]⟩
  · cases b0 : own_bl c0 <;> cases b1 : own_bl c1 <;> cases b2 : own_bl c2
    · exact ⟨0, 3, by simp [own_sta, b0, b1, b2], by simp [own_sta, own_ege, b0, b1, b2], by decide, by decide, by simp [own_tk, own_trim, own_rdw, b0, b1, b2]⟩
    · exact ⟨0, 2, by simp [own_sta, b0, b1, b2], by simp [own_sta, own_ege, b0, b1, b2], by decide, by decide, by simp [own_tk, own_trim, own_rdw, b0, b1, b2]⟩
    · exact ⟨0, 3, by simp [own_sta, b0, b1, b2], by simp [own_sta, own_ege, b0, b1, b2], by decide, by decide, by simp [own_tk, own_trim, own_rdw, b0, b1, b2]⟩
    · exact ⟨0, 1, by simp [own_sta, b0, b1, b2], by simp [own_sta, own_ege, b0, b1, b2], by decide, by decide, by simp [own_tk, own_trim, own_rdw, b0, b1, b2]⟩
    · exact ⟨1, 3, by simp [own_sta, b0, b1, b2], by simp [own_sta, own_ege, b0, b1, b2], by decide, by decide, by simp [own_tk, own_trim, own_rdw, b0, b1, b2]⟩
    · exact ⟨1, 2, by simp [own_sta, b0, b1, b2], by simp [own_sta, own_ege, b0, b1, b2], by decide, by decide, by simp [own_tk, own_trim, own_rdw, b0, b1, b2]⟩
    · exact ⟨2, 3, by simp [own_sta, b0, b1, b2], by simp [own_sta, own_ege, b0, b1, b2], by decide, by decide, by simp [own_tk, own_trim, own_rdw, b0, b1, b2]⟩
    · exact ⟨3, 3, by simp [own_sta, b0, b1, b2], by simp [own_sta, own_ege, b0, b1, b2], by decide, by decide, by simp [own_tk, own_trim, own_rdw, b0, b1, b2]⟩
  · cases b0 : own_bl c0 <;> cases b1 : own_bl c1 <;> cases b2 : own_bl c2 <;> cases b3 : own_bl c3
    · exact ⟨0, 4, by simp [own_sta, b0, b1, b2, b3], by simp [own_sta, own_ege, b0, b1, b2, b3], by decide, by decide, by simp [own_tk, own_trim, own_rdw, b0, b1, b2, b3]⟩
    · exact ⟨0, 3, by simp [own_sta, b0, b1, b2, b3], by simp [own_sta, own_ege, b0, b1, b2, b3], by decide, by decide, by simp [own_tk, own_trim, own_rdw, b0, b1, b2, b3]⟩
    · exact ⟨0, 4, by simp [own_sta, b0, b1, b2, b3], by simp [own_sta, own_ege, b0, b1, b2, b3], by decide, by decide, by simp [own_tk, own_trim, own_rdw, b0, b1, b2, b3]⟩
    · exact ⟨0, 2, by simp [own_sta, b0, b1, b2, b3], by simp [own_sta, own_ege, b0, b1, b2, b3], by decide, by decide, by simp [own_tk, own_trim, own_rdw, b0, b1, b2, b3]⟩
    · exact ⟨0, 4, by simp [own_sta, b0, b1, b2, b3], by simp [own_sta, own_ege, b0, b1, b2, b3], by decide, by decide, by simp [own_tk, own_trim, own_rdw, b0, b1, b2, b3]⟩
    · exact ⟨0, 3, by simp [own_sta, b0, b1, b2, b3], by simp [own_sta, own_ege, b0, b1, b2, b3], by decide, by decide, by simp [own_tk, own_trim, own_rdw, b0, b1, b2, b3]⟩
    · exact ⟨0, 4, by simp [own_sta, b0, b1, b2, b3], by simp [own_sta, own_ege, b0, b1, b2, b3], by decide, by decide, by simp [own_tk, own_trim, own_rdw, b0, b1, b2, b3]⟩
    · exact ⟨0, 1, by simp [own_sta, b0, b1, b2, b3], by simp [own_sta, own_ege, b0, b1, b2, b3], by decide, by decide, by simp [own_tk, own_trim, own_rdw, b0, b1, b2, b3]⟩
    · exact ⟨1, 4, by simp [own_sta, b0, b1, b2, b3], by simp [own_sta, own_ege, b0, b1, b2, b3], by decide, by decide, by simp [own_tk, own_trim, own_rdw, b0, b1, b2, b3]⟩
    · exact ⟨1, 3, by simp [own_sta, b0, b1, b2, b3], by simp [own_sta, own_ege, b0, b1, b2, b3], by decide, by decide, by simp [own_tk, own_trim, own_rdw, b0, b1, b2, b3]⟩
    · exact ⟨1, 4, by simp [own_sta, b0, b1, b2, b3], by simp [own_sta, own_ege, b0, b1, b2, b3], by decide, by decide, by simp [own_tk, own_trim, own_rdw, b0, b1, b2, b3]⟩
    · exact ⟨1, 2, by simp [own_sta, b0, b1, b2, b3], by simp [own_sta, own_ege, b0, b1, b2, b3], by decide, by decide, by simp [own_tk, own_trim, own_rdw, b0, b1, b2, b3]⟩
    · exact ⟨2, 4, by simp [own_sta, b0, b1, b2, b3], by simp [own_sta, own_ege, b0, b1, b2, b3], by decide, by decide, by simp [own_tk, own_trim, own_rdw, b0, b1, b2, b3]⟩
    · exact ⟨2, 3, by simp [own_sta, b0, b1, b2, b3], by simp [own_sta, own_ege, b0, b1, b2, b3], by decide, by decide, by simp [own_tk, own_trim, own_rdw, b0, b1, b2, b3]⟩
    · exact ⟨3, 4, by simp [own_sta, b0, b1, b2, b3], by simp [own_sta, own_ege, b0, b1, b2, b3], by decide, by decide, by simp [own_tk, own_trim, own_rdw, b0, b1, b2, b3]⟩
    · exact ⟨4, 4, by simp [own_sta, b0, b1, b2, b3], by simp [own_sta, own_ege, b0, b1, b2, b3], by decide, by decide, by simp [own_tk, own_trim, own_rdw, b0, b1, b2, b3]⟩
theorem own_trange {l : List Int32} {P : Int32 → Prop} (h : ∀ c ∈ l, P c) (i j : Nat) : ∀ c ∈ (l.drop i).take j, P c := fun c hc => h c (List.mem_of_mem_drop (List.mem_of_mem_take hc))
theorem own_slice {cs : List Int32} {b n : Nat} (h : b + n ≤ cs.length) : (List.range n).map (fun i => (cs.map fun c => Value.int (StrChars.lo8 c)).getD (b + i) (.int 0)) = (((cs.drop b).take n).map fun c => Value.int (StrChars.lo8 c)) := by
  apply List.ext_getElem
  · simp; omega
  · intro i h1 h2
    simp at h1
    have : b + i < cs.length := by omega
    simp [this]
theorem own_rng5 (x : Int32) : ¬ ((x &&& (2147483647 : Int32)) % (5 : Int32)) < 0 ∧ ((x &&& (2147483647 : Int32)) % (5 : Int32)) < 5 := own_rngm _ _ (c_and x (2147483647 : Int32) (by decide)).1 (by decide)
theorem own_dr (x : Int32) : ¬ (nar .char (own_draw x)) < 0 ∧ ¬ (255 : Int32) < nar .char (own_draw x) := by rw [own_draw_nar]; exact own_draw_rng x
theorem own_le_eq {a b : Int32} (h1 : ¬ a < b) (h2 : ¬ b < a) : a = b := by
  apply Int32.toInt_inj.mp
  simp only [Int32.lt_iff_toInt_lt] at h1 h2; omega
theorem own_strOf {Z : State} {h : Heap} {r t : Addr} {kb : ClassId} {ds : List Int32} {n : Nat} (E : Exa Z h r "java/lang/String") (F : Fld Z h r "java/lang/String" "coder" "B" (.int 0)) (G : Fld Z h r "java/lang/String" "value" "[B" (.ref t)) (V : Arv Z h t kb .byte (Int32.ofNat n) (ds.map fun c => Value.int (StrChars.lo8 c)) (.int 0)) (hn : ds.length = n) (hp : ∀ c ∈ ds, ¬ c < 0 ∧ ¬ (255 : Int32) < c) : own_str Z h r ds :=
  ⟨t, kb, 0, _, _, E, F, G, V, Or.inl ⟨rfl, by rw [hn], rfl, fun c hc => (hp c hc).2⟩, own_up hp⟩
theorem own_lat {Z : State} {h : Heap} {r : Addr} {cs : List Int32} (S : own_str Z h r cs) (hp : ∀ c ∈ cs, ¬ c < 0 ∧ ¬ (255 : Int32) < c) : ∃ t kb, Exa Z h r "java/lang/String" ∧ Fld Z h r "java/lang/String" "coder" "B" (.int 0) ∧ Fld Z h r "java/lang/String" "value" "[B" (.ref t) ∧ Arv Z h t kb .byte (Int32.ofNat cs.length) (cs.map fun c => Value.int (StrChars.lo8 c)) (.int 0) := by
  obtain ⟨t, kb, cd, N2, vs, a, b, c, d, e, f⟩ := S
  rcases e with ⟨rfl, rfl, rfl, -⟩ | ⟨-, -, -, c, hc, hq⟩
  · exact ⟨t, kb, a, b, c, d⟩
  · exact absurd hq (hp c hc).2
theorem own_dw_step {cs : List Int32} {i : Nat} (hi : i < cs.length) (hb : own_bl (cs.getD i 0) = true) (h : cs.dropWhile own_bl = (cs.drop i).dropWhile own_bl) : cs.dropWhile own_bl = (cs.drop (i + 1)).dropWhile own_bl := by
  rw [h, List.drop_eq_getElem_cons hi]
  have : own_bl cs[i] = true := by simpa [hi] using hb
  rw [List.dropWhile_cons, if_pos this]
theorem own_dw_stop {cs : List Int32} {i : Nat} (hi : i < cs.length) (hb : ¬ own_bl (cs.getD i 0) = true) (h : cs.dropWhile own_bl = (cs.drop i).dropWhile own_bl) : cs.dropWhile own_bl = cs.drop i := by
  rw [h, List.drop_eq_getElem_cons hi]
  have : ¬ own_bl cs[i] = true := by simpa [hi] using hb
  rw [List.dropWhile_cons, if_neg this]
theorem own_dw_end {cs : List Int32} {i : Nat} (hi : cs.length ≤ i) (h : cs.dropWhile own_bl = (cs.drop i).dropWhile own_bl) : cs.dropWhile own_bl = cs.drop i := by
  rw [h, List.drop_eq_nil_of_le hi]; rfl
theorem own_tr_start {cs : List Int32} {i : Nat} (h : cs.dropWhile own_bl = cs.drop i) : own_trim cs = own_rdw ((cs.drop i).take (cs.length - i)) := by
  unfold own_trim; rw [h, List.take_of_length_le (by simp)]
theorem own_take_last {cs : List Int32} {i j : Nat} (hij : i < j) (hj : j ≤ cs.length) : (cs.drop i).take (j - i) = (cs.drop i).take (j - 1 - i) ++ [cs.getD (j - 1) 0] := by
  have e : j - i = (j - 1 - i) + 1 := by omega
  rw [e, List.take_add_one]
  have q : (cs.drop i)[j - 1 - i]? = some (cs.getD (j - 1) 0) := by
    rw [List.getElem?_drop, show i + (j - 1 - i) = j - 1 by omega]
    have : j - 1 < cs.length := by omega
    simp [this]
  rw [q]; rfl
theorem own_tr_step {cs : List Int32} {i j : Nat} (hij : i < j) (hj : j ≤ cs.length) (hb : own_bl (cs.getD (j - 1) 0) = true) (h : own_trim cs = own_rdw ((cs.drop i).take (j - i))) : own_trim cs = own_rdw ((cs.drop i).take (j - 1 - i)) := by
  rw [h, own_take_last hij hj]; unfold own_rdw
  rw [List.reverse_append, List.reverse_singleton, List.singleton_append, List.dropWhile_cons, if_pos hb]
theorem own_tr_stop {cs : List Int32} {i j : Nat} (hij : i < j) (hj : j ≤ cs.length) (hb : ¬ own_bl (cs.getD (j - 1) 0) = true) (h : own_trim cs = own_rdw ((cs.drop i).take (j - i))) : own_trim cs = (cs.drop i).take (j - i) := by
  rw [h, own_take_last hij hj]; unfold own_rdw
  rw [List.reverse_append, List.reverse_singleton, List.singleton_append, List.dropWhile_cons, if_neg hb]
  simp
theorem own_tr_end {cs : List Int32} {i j : Nat} (hij : j ≤ i) (h : own_trim cs = own_rdw ((cs.drop i).take (j - i))) : own_trim cs = (cs.drop i).take (j - i) := by
  rw [h, show j - i = 0 by omega]; rfl
theorem own_at4 {c0 c1 c2 c3 : Int32} {s e i : Nat} (hi : i < e - s) : ([Value.int c0, .int c1, .int c2, .int c3]).getD (s + i) (.int 0) = .int ((((([c0, c1, c2, c3] : List Int32).drop s).take (e - s))).getD i 0) := by
  have q : ((([c0, c1, c2, c3] : List Int32).drop s).take (e - s)).getD i 0 = ([c0, c1, c2, c3] : List Int32).getD (s + i) 0 := by
    simp [List.getD_eq_getElem?_getD, List.getElem?_take, hi]
  rw [q]
  rcases Nat.lt_or_ge (s + i) 4 with h | h
  · have : s + i = 0 ∨ s + i = 1 ∨ s + i = 2 ∨ s + i = 3 := by omega
    rcases this with h | h | h | h <;> rw [h] <;> rfl
  · rw [List.getD_eq_getElem?_getD, List.getElem?_eq_none (by simpa using h), List.getD_eq_getElem?_getD, List.getElem?_eq_none (by simpa using h)]; rfl
set_option maxRecDepth 65536 in
set_option maxHeartbeats 40000000 in
theorem rm_s2 (l : Launch) (Z : State) (a0 : Array Value) (hw : ∀ d ∈ tables_1, d.before a0 Z = true) (hE : EW Z a0 ELx) (a1 : Addr) (b1 : Addr) (h0 : Heap) (O0 : Ext Z.heap h0) (E1 : Exa Z h0 a1 "java/lang/String") (F1 : Fld Z h0 a1 "java/lang/String" "value" "[B" .null) (F2 : Fld Z h0 a1 "java/lang/String" "coder" "B" (.int 0)) (g1 : Z.heap.size ≤ a1) :
    Ct l Z ELx a0 true (⟨"java/lang/String", "<init>", "([CIILjava/lang/Void;)V"⟩ : MethodName) jdk_42_method_149_code 6 none [] ({ frames := 1, cells := 4, slots := 8, locals := 12 } : Room) #[(.ref a1), (.ref b1), (.int (0 : Int32)), (.int (0 : Int32)), .null] h0 [a1] (fun v h => v = none ∧ Keep h0 h [a1] ∧ own_str Z h a1 []) := by
  refine own_enter (plainFor_of_name pn_0) hE O0 ?_
  intro p e s m below meth c s₁ hx hby hml hown hnm hret hlk H0
  refine Go.eq (ef_rm_s2 m a1 b1 (0 : Int32) (0 : Int32)) ?_
  have K1 : Keep h0 h0 [a1] := Keep.refl _ _
  have hst := own_hst hw
  show Go p e below _ s₁ (mkF m 0 #[.val (.ref a1), .val (.ref b1), .val (.int (0 : Int32)), .val (.int (0 : Int32)), .val .null, .unset] [])
  refine Go.of (fun _ => XS.aloadN H0.here hx rfl (hb hby d_jdk_42_149_0) rfl rfl) ?_
  show Go p e below _ s₁ (mkF m 1 #[.val (.ref a1), .val (.ref b1), .val (.int (0 : Int32)), .val (.int (0 : Int32)), .val .null, .unset] [(.ref a1)])
  refine own_initO H0 hx hown (ow hw 19 rfl) (ow hw 20 rfl) (ow hw 21 rfl) rfl (by rw [hml]; rfl) rfl (hb hby d_jdk_42_149_1) (by decide) (W := 0) (by show 2 * 0 + _ ≤ _; exact Nat.le_of_eq rfl) (by decide) fun T2 H3 => ?_
  show Go p e below _ T2 (mkF m 4 #[.val (.ref a1), .val (.ref b1), .val (.int (0 : Int32)), .val (.int (0 : Int32)), .val .null, .unset] [])
  refine Go.of (fun _ => XS.iloadN H3.here hx rfl (hb hby d_jdk_42_149_4) rfl) ?_
  show Go p e below _ T2 (mkF m 5 #[.val (.ref a1), .val (.ref b1), .val (.int (0 : Int32)), .val (.int (0 : Int32)), .val .null, .unset] [(.int (0 : Int32))])
  refine Go.of (fun _ => XS.ifNo H3.here hx rfl (hb hby d_jdk_42_149_5) rfl ((if0 _ _).trans (teq (by decide : (0 : Int32) = (0 : Int32))).2)) ?_
  show Go p e below _ T2 (mkF m 8 #[.val (.ref a1), .val (.ref b1), .val (.int (0 : Int32)), .val (.int (0 : Int32)), .val .null, .unset] [])
  refine Go.of (fun _ => XS.aloadN H3.here hx rfl (hb hby d_jdk_42_149_8) rfl rfl) ?_
  show Go p e below _ T2 (mkF m 9 #[.val (.ref a1), .val (.ref b1), .val (.int (0 : Int32)), .val (.int (0 : Int32)), .val .null, .unset] [(.ref a1)])
  refine own_ldcS H3 hx hown (ow hw 22 rfl) hst (by decide) (vs := []) (z := (0 : Int32)) ⟨by decide, by decide⟩ (by decide) (by decide) rfl (hb hby d_jdk_42_149_9) (nn := 0) (by decide) (by decide) (by decide) (by decide) fun T4 h6 a8 b9 kb10 H5 E7 f11 f12 f13 V14 ne15 => ?_
  have K16 : Keep h0 h6 [a1] := K1.ext E7
  have f17 := E1.ext E7
  have f18 := F1.ext E7
  have f19 := F2.ext E7
  show Go p e below _ T4 (mkF m 11 #[.val (.ref a1), .val (.ref b1), .val (.int (0 : Int32)), .val (.int (0 : Int32)), .val .null, .unset] [(.ref a8), (.ref a1)])
  refine own_getF H5 hx hown (host := "") (Or.inl (ow hw 28 rfl)) Via.refl f13 rfl rfl (hb hby d_jdk_42_149_11) fun T20 H21 => ?_
  show Go p e below _ T20 (mkF m 14 #[.val (.ref a1), .val (.ref b1), .val (.int (0 : Int32)), .val (.int (0 : Int32)), .val .null, .unset] [(.ref b9), (.ref a1)])
  refine own_putF H21 hx hown (host := "") (Or.inl (ow hw 28 rfl)) Via.refl f18 f17 (Or.inr ⟨(ow hw 24 rfl), rfl, hnm⟩) (ow hw 10 rfl) (ty := (.array .byte)) (by decide) rfl rfl g1 (own_mem (List.mem_of_getElem? (i := 0) rfl)) rfl rfl (hb hby d_jdk_42_149_14) fun T22 h24 H23 W25 => ?_
  have K26 : Keep h0 h24 [a1] := K16.wr W25 (Or.inl (List.mem_of_getElem? (i := 0) rfl))
  have f27 := f17.wr W25
  have f28 := f18.same W25
  have f29 := f19.other W25 (Or.inr (slot_ne (Or.inr (ow hw 25 rfl)) (Or.inr (ow hw 24 rfl)) (by decide) (t := .byte) (t' := (.array .byte)) (by decide) (by decide)))
  have f30 := f11.wr W25
  have f31 := f12.other W25 (Or.inl (Ne.symm (ne15 a1 (List.mem_of_getElem? (i := 0) rfl)).1))
  have f32 := f13.other W25 (Or.inl (Ne.symm (ne15 a1 (List.mem_of_getElem? (i := 0) rfl)).1))
  have f33 := V14.other W25 (Ne.symm (ne15 a1 (List.mem_of_getElem? (i := 0) rfl)).2)
  show Go p e below _ T22 (mkF m 17 #[.val (.ref a1), .val (.ref b1), .val (.int (0 : Int32)), .val (.int (0 : Int32)), .val .null, .unset] [])
  refine Go.of (fun _ => XS.aloadN H23.here hx rfl (hb hby d_jdk_42_149_17) rfl rfl) ?_
  show Go p e below _ T22 (mkF m 18 #[.val (.ref a1), .val (.ref b1), .val (.int (0 : Int32)), .val (.int (0 : Int32)), .val .null, .unset] [(.ref a1)])
  refine own_ldcS H23 hx hown (ow hw 22 rfl) hst (by decide) (vs := []) (z := (0 : Int32)) ⟨by decide, by decide⟩ (by decide) (by decide) rfl (hb hby d_jdk_42_149_18) (nn := 0) (by decide) (by decide) (by decide) (by decide) fun T34 h36 a38 b39 kb40 H35 E37 f41 f42 f43 V44 ne45 => ?_
  have K46 : Keep h0 h36 [a1] := K26.ext E37
  have f47 := f27.ext E37
  have f48 := f28.ext E37
  have f49 := f29.ext E37
  have f50 := f30.ext E37
  have f51 := f31.ext E37
  have f52 := f32.ext E37
  have f53 := f33.ext E37
  show Go p e below _ T34 (mkF m 20 #[.val (.ref a1), .val (.ref b1), .val (.int (0 : Int32)), .val (.int (0 : Int32)), .val .null, .unset] [(.ref a38), (.ref a1)])
  refine own_getF H35 hx hown (host := "") (Or.inl (ow hw 29 rfl)) Via.refl f42 rfl rfl (hb hby d_jdk_42_149_20) fun T54 H55 => ?_
  show Go p e below _ T54 (mkF m 23 #[.val (.ref a1), .val (.ref b1), .val (.int (0 : Int32)), .val (.int (0 : Int32)), .val .null, .unset] [(.int (0 : Int32)), (.ref a1)])
  refine own_putFN H55 hx hown (ow hw 29 rfl) Via.refl f49 f47 (Or.inr ⟨(ow hw 25 rfl), rfl, hnm⟩) (ow hw 10 rfl) (ty := .byte) (v' := .int (nar .byte (0 : Int32))) (by decide) rfl (fits_nar_byte _) g1 (own_mem (List.mem_of_getElem? (i := 0) rfl)) rfl rfl (hb hby d_jdk_42_149_23) fun T56 h58 H57 W59 => ?_
  have K60 : Keep h0 h58 [a1] := K46.wr W59 (Or.inl (List.mem_of_getElem? (i := 0) rfl))
  have f61 := f47.wr W59
  have f62 := f48.other W59 (Or.inr (slot_ne (Or.inr (ow hw 24 rfl)) (Or.inr (ow hw 25 rfl)) (by decide) (t := (.array .byte)) (t' := .byte) (by decide) (by decide)))
  have f63 := f49.same W59
  have f64 := f50.wr W59
  have f65 := f51.other W59 (Or.inl (Ne.symm (ne15 a1 (List.mem_of_getElem? (i := 0) rfl)).1))
  have f66 := f52.other W59 (Or.inl (Ne.symm (ne15 a1 (List.mem_of_getElem? (i := 0) rfl)).1))
  have f67 := f53.other W59 (Ne.symm (ne15 a1 (List.mem_of_getElem? (i := 0) rfl)).2)
  have f68 := f41.wr W59
  have f69 := f42.other W59 (Or.inl (Ne.symm (ne45 a1 (List.mem_of_getElem? (i := 0) rfl)).1))
  have f70 := f43.other W59 (Or.inl (Ne.symm (ne45 a1 (List.mem_of_getElem? (i := 0) rfl)).1))
  have f71 := V44.other W59 (Ne.symm (ne45 a1 (List.mem_of_getElem? (i := 0) rfl)).2)
  show Go p e below _ T56 (mkF m 26 #[.val (.ref a1), .val (.ref b1), .val (.int (0 : Int32)), .val (.int (0 : Int32)), .val .null, .unset] [])
  exact own_ret H57 hx hlk hret (hb hby d_jdk_42_149_26) ⟨rfl, K60, own_str.empty f61 f63 f62 f67⟩ (by decide) (by decide)
set_option maxRecDepth 65536 in
set_option maxHeartbeats 40000000 in
theorem rm_s1 (l : Launch) (Z : State) (a0 : Array Value) (hw : ∀ d ∈ tables_1, d.before a0 Z = true) (hE : EW Z a0 ELx) (a1 : Addr) (b1 : Addr) (kc : ClassId) (dc : Value) (h0 : Heap) (O0 : Ext Z.heap h0) (E1 : Exa Z h0 a1 "java/lang/String") (F1 : Fld Z h0 a1 "java/lang/String" "value" "[B" .null) (F2 : Fld Z h0 a1 "java/lang/String" "coder" "B" (.int 0)) (g1 : Z.heap.size ≤ a1) (V1 : Arv Z h0 b1 kc .char (0 : Int32) [] dc) :
    Ct l Z ELx a0 true (⟨"java/lang/String", "<init>", "([C)V"⟩ : MethodName) jdk_42_method_3_code 2 none [] ({ frames := 2, cells := 4, slots := 8, locals := 30 } : Room) #[(.ref a1), (.ref b1)] h0 [a1] (fun v h => v = none ∧ Keep h0 h [a1] ∧ own_str Z h a1 []) := by
  refine own_enter (plainFor_of_name pn_0) hE O0 ?_
  intro p e s m below meth c s₁ hx hby hml hown hnm hret hlk H0
  refine Go.eq (ef_rm_s1 m a1 b1) ?_
  have K1 : Keep h0 h0 [a1] := Keep.refl _ _
  have hst := own_hst hw
  show Go p e below _ s₁ (mkF m 0 #[.val (.ref a1), .val (.ref b1)] [])
  refine Go.of (fun _ => XS.aloadN H0.here hx rfl (hb hby d_jdk_42_3_0) rfl rfl) ?_
  show Go p e below _ s₁ (mkF m 1 #[.val (.ref a1), .val (.ref b1)] [(.ref a1)])
  refine Go.of (fun _ => XS.aloadN H0.here hx rfl (hb hby d_jdk_42_3_1) rfl rfl) ?_
  show Go p e below _ s₁ (mkF m 2 #[.val (.ref a1), .val (.ref b1)] [(.ref b1), (.ref a1)])
  refine Go.of (fun _ => XS.iconst H0.here hx rfl (hb hby d_jdk_42_3_2)) ?_
  show Go p e below _ s₁ (mkF m 3 #[.val (.ref a1), .val (.ref b1)] [(.int (0 : Int32)), (.ref b1), (.ref a1)])
  refine Go.of (fun _ => XS.aloadN H0.here hx rfl (hb hby d_jdk_42_3_3) rfl rfl) ?_
  show Go p e below _ s₁ (mkF m 4 #[.val (.ref a1), .val (.ref b1)] [(.ref b1), (.int (0 : Int32)), (.ref b1), (.ref a1)])
  refine own_len H0 hx V1 rfl rfl (hb hby d_jdk_42_3_4) ?_
  show Go p e below _ s₁ (mkF m 5 #[.val (.ref a1), .val (.ref b1)] [(.int (0 : Int32)), (.int (0 : Int32)), (.ref b1), (.ref a1)])
  refine Go.of (fun _ => XS.aconstNull H0.here hx rfl (hb hby d_jdk_42_3_5)) ?_
  show Go p e below _ s₁ (mkF m 6 #[.val (.ref a1), .val (.ref b1)] [.null, (.int (0 : Int32)), (.int (0 : Int32)), (.ref b1), (.ref a1)])
  refine own_specialW H0 hx (y := (⟨"java/lang/String", "<init>", "([CIILjava/lang/Void;)V"⟩ : MethodName)) rfl hown (ow hw 15 rfl) (ow hw 16 rfl) (ow hw 11 rfl) (ow hw 18 rfl) (by decide) (W := 0) (rm_s2 l Z a0 hw hE a1 b1 h0 H0.old E1 F1 F2 g1) (allS (List.mem_of_getElem? (i := 0) rfl) all0) (by decide) (by decide) rfl (by rw [hml]; rfl) (a := a1) (argsL := [(.ref b1), (.int (0 : Int32)), (.int (0 : Int32)), .null]) (rest := []) rfl (lenOf pd_0 rfl) rfl (by show 2 * 0 + _ ≤ _; exact Nat.le_of_eq rfl) (hb hby d_jdk_42_3_6) (by decide) (by decide) fun T2 h4 v6 H3 hs7 q5 => ?_
  obtain ⟨rfl, KK, SS⟩ := q5
  show Go p e below _ T2 (mkF m 9 #[.val (.ref a1), .val (.ref b1)] [])
  exact own_ret H3 hx hlk hret (hb hby d_jdk_42_3_9) ⟨rfl, KK, SS⟩ (by decide) (by decide)
set_option maxRecDepth 65536 in
set_option maxHeartbeats 40000000 in
theorem rm_draw (l : Launch) (Z : State) (a0 : Array Value) (hw : ∀ d ∈ tables_1, d.before a0 Z = true) (hE : EW Z a0 ELx) (p1 : Int32) (h0 : Heap) (O0 : Ext Z.heap h0) :
    Ct l Z ELx a0 true (⟨"com/example/brokerward/brokerward/http/RequestHeadTrimPinLaw", "draw", "(I)C"⟩ : MethodName) method_2_code 2 (some .char) [] ({ frames := 0, cells := 0, slots := 0, locals := 0 } : Room) #[(.int p1)] h0 [] (fun v h => v = some (.int (own_draw p1)) ∧ h0 = h) := by
  refine own_enter (plainFor_of_name pn_1) hE O0 ?_
  intro p e s m below meth c s₁ hx hby hml hown hnm hret hlk H0
  refine Go.eq (ef_rm_draw m p1) ?_
  show Go p e below _ s₁ (mkF m 0 #[.val (.int p1), .unset] [])
  refine Go.of (fun _ => XS.iloadN H0.here hx rfl (hb hby d_2_0) rfl) ?_
  show Go p e below _ s₁ (mkF m 1 #[.val (.int p1), .unset] [(.int p1)])
  refine Go.of (fun _ => XS.iconst H0.here hx rfl (hb hby d_2_1)) ?_
  show Go p e below _ s₁ (mkF m 2 #[.val (.int p1), .unset] [(.int (3 : Int32)), (.int p1)])
  refine Go.of (fun _ => XS.iand H0.here hx rfl (hb hby d_2_2) rfl) ?_
  show Go p e below _ s₁ (mkF m 3 #[.val (.int p1), .unset] [(.int (p1 &&& (3 : Int32)))])
  refine Go.of (fun _ => XS.istoreN H0.here hx rfl (hb hby d_2_3) rfl (l' := #[.val (.int p1), .val (.int (p1 &&& (3 : Int32)))]) rfl) ?_
  show Go p e below _ s₁ (mkF m 4 #[.val (.int p1), .val (.int (p1 &&& (3 : Int32)))] [])
  refine Go.of (fun _ => XS.iloadN H0.here hx rfl (hb hby d_2_4) rfl) ?_
  show Go p e below _ s₁ (mkF m 5 #[.val (.int p1), .val (.int (p1 &&& (3 : Int32)))] [(.int (p1 &&& (3 : Int32)))])
  by_cases hbr1 : (p1 &&& (3 : Int32)) = (0 : Int32)
  · skip
    refine Go.of (fun _ => XS.ifNo H0.here hx rfl (hb hby d_2_5) rfl ((if0 _ _).trans (teq hbr1).2)) ?_
    show Go p e below _ s₁ (mkF m 8 #[.val (.int p1), .val (.int (p1 &&& (3 : Int32)))] [])
    refine Go.of (fun _ => XS.bipush H0.here hx rfl (hb hby d_2_8)) ?_
    show Go p e below _ s₁ (mkF m 10 #[.val (.int p1), .val (.int (p1 &&& (3 : Int32)))] [(.int (32 : Int32))])
    exact own_retN H0 hx hlk (t := .char) hret (by simp) (hb hby d_2_10) ⟨by rw [← own_draw_nar]; unfold own_draw; rw [if_pos hbr1], rfl⟩ (by decide) (by decide)
  · skip
    refine Go.of (fun _ => XS.ifYes H0.here hx rfl (pc0 := 5) (pc' := 11) rfl (hb hby d_2_5) rfl ((if0 _ _).trans (feq hbr1).2) (by decide) (by decide)) ?_
    show Go p e below _ s₁ (mkF m 11 #[.val (.int p1), .val (.int (p1 &&& (3 : Int32)))] [])
    refine Go.of (fun _ => XS.iloadN H0.here hx rfl (hb hby d_2_11) rfl) ?_
    show Go p e below _ s₁ (mkF m 12 #[.val (.int p1), .val (.int (p1 &&& (3 : Int32)))] [(.int (p1 &&& (3 : Int32)))])
    refine Go.of (fun _ => XS.iconst H0.here hx rfl (hb hby d_2_12)) ?_
    show Go p e below _ s₁ (mkF m 13 #[.val (.int p1), .val (.int (p1 &&& (3 : Int32)))] [(.int (1 : Int32)), (.int (p1 &&& (3 : Int32)))])
    by_cases hbr2 : (p1 &&& (3 : Int32)) = (1 : Int32)
    · skip
      refine Go.of (fun _ => XS.icmpNo H0.here hx rfl (hb hby d_2_13) rfl (teq hbr2).2) ?_
      show Go p e below _ s₁ (mkF m 16 #[.val (.int p1), .val (.int (p1 &&& (3 : Int32)))] [])
      refine Go.of (fun _ => XS.bipush H0.here hx rfl (hb hby d_2_16)) ?_
      show Go p e below _ s₁ (mkF m 18 #[.val (.int p1), .val (.int (p1 &&& (3 : Int32)))] [(.int (9 : Int32))])
      exact own_retN H0 hx hlk (t := .char) hret (by simp) (hb hby d_2_18) ⟨by rw [← own_draw_nar]; unfold own_draw; rw [if_neg hbr1, if_pos hbr2], rfl⟩ (by decide) (by decide)
    · skip
      refine Go.of (fun _ => XS.icmpYes H0.here hx rfl (pc0 := 13) (pc' := 19) rfl (hb hby d_2_13) rfl (feq hbr2).2 (by decide) (by decide)) ?_
      show Go p e below _ s₁ (mkF m 19 #[.val (.int p1), .val (.int (p1 &&& (3 : Int32)))] [])
      refine Go.of (fun _ => XS.iloadN H0.here hx rfl (hb hby d_2_19) rfl) ?_
      show Go p e below _ s₁ (mkF m 20 #[.val (.int p1), .val (.int (p1 &&& (3 : Int32)))] [(.int p1)])
      refine Go.of (fun _ => XS.iconst H0.here hx rfl (hb hby d_2_20)) ?_
      show Go p e below _ s₁ (mkF m 21 #[.val (.int p1), .val (.int (p1 &&& (3 : Int32)))] [(.int (2 : Int32)), (.int p1)])
      refine Go.of (fun _ => XS.iushr H0.here hx rfl (hb hby d_2_21) rfl) ?_
      show Go p e below _ s₁ (mkF m 22 #[.val (.int p1), .val (.int (p1 &&& (3 : Int32)))] [(.int ((p1.toUInt32 >>> ((2 : Int32) &&& 31).toUInt32).toInt32))])
      refine Go.of (fun _ => XS.sipush H0.here hx rfl (hb hby d_2_22)) ?_
      show Go p e below _ s₁ (mkF m 25 #[.val (.int p1), .val (.int (p1 &&& (3 : Int32)))] [(.int (255 : Int32)), (.int ((p1.toUInt32 >>> ((2 : Int32) &&& 31).toUInt32).toInt32))])
      refine Go.of (fun _ => XS.iand H0.here hx rfl (hb hby d_2_25) rfl) ?_
      show Go p e below _ s₁ (mkF m 26 #[.val (.int p1), .val (.int (p1 &&& (3 : Int32)))] [(.int (((p1.toUInt32 >>> ((2 : Int32) &&& 31).toUInt32).toInt32) &&& (255 : Int32)))])
      refine Go.of (fun _ => XS.i2c H0.here hx rfl (hb hby d_2_26) rfl) ?_
      show Go p e below _ s₁ (mkF m 27 #[.val (.int p1), .val (.int (p1 &&& (3 : Int32)))] [(.int ((((p1.toUInt32 >>> ((2 : Int32) &&& 31).toUInt32).toInt32) &&& (255 : Int32)).toUInt32.toUInt16.toUInt32.toInt32))])
      exact own_retN H0 hx hlk (t := .char) hret (by simp) (hb hby d_2_27) ⟨by rw [← own_draw_nar]; unfold own_draw; rw [if_neg hbr1, if_neg hbr2], rfl⟩ (by decide) (by decide)
set_option maxRecDepth 65536 in
set_option maxHeartbeats 40000000 in
theorem rm_isb (l : Launch) (Z : State) (a0 : Array Value) (hw : ∀ d ∈ tables_1, d.before a0 Z = true) (hE : EW Z a0 ELx) (p1 : Int32) (h0 : Heap) (O0 : Ext Z.heap h0) :
    Ct l Z ELx a0 true (⟨"com/example/brokerward/brokerward/http/RequestHead", "isBlank", "(C)Z"⟩ : MethodName) prog_25_method_18_code 1 (some .boolean) [] ({ frames := 0, cells := 0, slots := 0, locals := 0 } : Room) #[(.int p1)] h0 [] (fun v h => v = some (.int (if own_bl p1 then 1 else 0)) ∧ h0 = h) := by
  refine own_enter (plainFor_of_name pn_2) hE O0 ?_
  intro p e s m below meth c s₁ hx hby hml hown hnm hret hlk H0
  refine Go.eq (ef_rm_isb m p1) ?_
  show Go p e below _ s₁ (mkF m 0 #[.val (.int p1)] [])
  refine Go.of (fun _ => XS.iloadN H0.here hx rfl (hb hby d_prog_25_18_0) rfl) ?_
  show Go p e below _ s₁ (mkF m 1 #[.val (.int p1)] [(.int p1)])
  refine Go.of (fun _ => XS.bipush H0.here hx rfl (hb hby d_prog_25_18_1)) ?_
  show Go p e below _ s₁ (mkF m 3 #[.val (.int p1)] [(.int (32 : Int32)), (.int p1)])
  by_cases hbr1 : p1 = (32 : Int32)
  · skip
    refine Go.of (fun _ => XS.icmpYes H0.here hx rfl (pc0 := 3) (pc' := 12) rfl (hb hby d_prog_25_18_3) rfl (teq hbr1).1 (by decide) (by decide)) ?_
    show Go p e below _ s₁ (mkF m 12 #[.val (.int p1)] [])
    refine Go.of (fun _ => XS.iconst H0.here hx rfl (hb hby d_prog_25_18_12)) ?_
    show Go p e below _ s₁ (mkF m 13 #[.val (.int p1)] [(.int (1 : Int32))])
    refine Go.of (fun _ => XS.goto H0.here hx rfl (pc0 := 13) (pc' := 17) rfl (hb hby d_prog_25_18_13) (by decide) (by decide)) ?_
    show Go p e below _ s₁ (mkF m 17 #[.val (.int p1)] [(.int (1 : Int32))])
    exact own_retN H0 hx hlk (t := .boolean) hret (by simp) (hb hby d_prog_25_18_17) ⟨by rw [if_pos (by simp [own_bl, hbr1])]; rfl, rfl⟩ (by decide) (by decide)
  · skip
    refine Go.of (fun _ => XS.icmpNo H0.here hx rfl (hb hby d_prog_25_18_3) rfl (feq hbr1).1) ?_
    show Go p e below _ s₁ (mkF m 6 #[.val (.int p1)] [])
    refine Go.of (fun _ => XS.iloadN H0.here hx rfl (hb hby d_prog_25_18_6) rfl) ?_
    show Go p e below _ s₁ (mkF m 7 #[.val (.int p1)] [(.int p1)])
    refine Go.of (fun _ => XS.bipush H0.here hx rfl (hb hby d_prog_25_18_7)) ?_
    show Go p e below _ s₁ (mkF m 9 #[.val (.int p1)] [(.int (9 : Int32)), (.int p1)])
    by_cases hbr2 : p1 = (9 : Int32)
    · skip
      refine Go.of (fun _ => XS.icmpNo H0.here hx rfl (hb hby d_prog_25_18_9) rfl (teq hbr2).2) ?_
      show Go p e below _ s₁ (mkF m 12 #[.val (.int p1)] [])
      refine Go.of (fun _ => XS.iconst H0.here hx rfl (hb hby d_prog_25_18_12)) ?_
      show Go p e below _ s₁ (mkF m 13 #[.val (.int p1)] [(.int (1 : Int32))])
      refine Go.of (fun _ => XS.goto H0.here hx rfl (pc0 := 13) (pc' := 17) rfl (hb hby d_prog_25_18_13) (by decide) (by decide)) ?_
      show Go p e below _ s₁ (mkF m 17 #[.val (.int p1)] [(.int (1 : Int32))])
      exact own_retN H0 hx hlk (t := .boolean) hret (by simp) (hb hby d_prog_25_18_17) ⟨by rw [if_pos (by simp [own_bl, hbr2])]; rfl, rfl⟩ (by decide) (by decide)
    · skip
      refine Go.of (fun _ => XS.icmpYes H0.here hx rfl (pc0 := 9) (pc' := 16) rfl (hb hby d_prog_25_18_9) rfl (feq hbr2).2 (by decide) (by decide)) ?_
      show Go p e below _ s₁ (mkF m 16 #[.val (.int p1)] [])
      refine Go.of (fun _ => XS.iconst H0.here hx rfl (hb hby d_prog_25_18_16)) ?_
      show Go p e below _ s₁ (mkF m 17 #[.val (.int p1)] [(.int (0 : Int32))])
      exact own_retN H0 hx hlk (t := .boolean) hret (by simp) (hb hby d_prog_25_18_17) ⟨by rw [if_neg (by simp [own_bl, hbr1, hbr2])]; rfl, rfl⟩ (by decide) (by decide)
set_option maxRecDepth 65536 in
set_option maxHeartbeats 40000000 in
theorem rm_kept (l : Launch) (Z : State) (a0 : Array Value) (hw : ∀ d ∈ tables_1, d.before a0 Z = true) (hE : EW Z a0 ELx) (b1 : Addr) (kc : ClassId) (c0 : Int32) (c1 : Int32) (c2 : Int32) (c3 : Int32) (p1 : Int32) (i1 : Int32) (ci : Int32) (h0 : Heap) (O0 : Ext Z.heap h0) (V1 : Arv Z h0 b1 kc .char (4 : Int32) [.int c0, .int c1, .int c2, .int c3] (.int (0 : Int32))) (hi1 : ¬ i1 < 0 ∧ i1 < 4) (hci : ([.int c0, .int c1, .int c2, .int c3] : List Value).getD i1.toNatClampNeg (.int 0) = .int ci) :
    Ct l Z ELx a0 true (⟨"com/example/brokerward/brokerward/http/RequestHeadTrimPinLaw", "kept", "([CII)Z"⟩ : MethodName) method_3_code 3 (some .boolean) [] ({ frames := 0, cells := 0, slots := 0, locals := 0 } : Room) #[(.ref b1), (.int p1), (.int i1)] h0 [] (fun v h => v = some (.int (if i1 < p1 ∧ own_bl ci = false then 1 else 0)) ∧ h0 = h) := by
  refine own_enter (plainFor_of_name pn_1) hE O0 ?_
  intro p e s m below meth c s₁ hx hby hml hown hnm hret hlk H0
  refine Go.eq (ef_rm_kept m b1 p1 i1) ?_
  show Go p e below _ s₁ (mkF m 0 #[.val (.ref b1), .val (.int p1), .val (.int i1)] [])
  refine Go.of (fun _ => XS.iloadN H0.here hx rfl (hb hby d_3_0) rfl) ?_
  show Go p e below _ s₁ (mkF m 1 #[.val (.ref b1), .val (.int p1), .val (.int i1)] [(.int i1)])
  refine Go.of (fun _ => XS.iloadN H0.here hx rfl (hb hby d_3_1) rfl) ?_
  show Go p e below _ s₁ (mkF m 2 #[.val (.ref b1), .val (.int p1), .val (.int i1)] [(.int p1), (.int i1)])
  by_cases hbr1 : i1 < p1
  · skip
    refine Go.of (fun _ => XS.icmpNo H0.here hx rfl (hb hby d_3_2) rfl (tlt hbr1).2.1) ?_
    show Go p e below _ s₁ (mkF m 5 #[.val (.ref b1), .val (.int p1), .val (.int i1)] [])
    refine Go.of (fun _ => XS.aloadN H0.here hx rfl (hb hby d_3_5) rfl rfl) ?_
    show Go p e below _ s₁ (mkF m 6 #[.val (.ref b1), .val (.int p1), .val (.int i1)] [(.ref b1)])
    refine Go.of (fun _ => XS.iloadN H0.here hx rfl (hb hby d_3_6) rfl) ?_
    show Go p e below _ s₁ (mkF m 7 #[.val (.ref b1), .val (.int p1), .val (.int i1)] [(.int i1), (.ref b1)])
    refine own_caload H0 hx V1 hi1 (v := (.int ci)) hci rfl rfl (hb hby d_3_7) ?_
    show Go p e below _ s₁ (mkF m 8 #[.val (.ref b1), .val (.int p1), .val (.int i1)] [(.int ci)])
    refine Go.of (fun _ => XS.bipush H0.here hx rfl (hb hby d_3_8)) ?_
    show Go p e below _ s₁ (mkF m 10 #[.val (.ref b1), .val (.int p1), .val (.int i1)] [(.int (32 : Int32)), (.int ci)])
    by_cases hbr2 : ci = (32 : Int32)
    · skip
      refine Go.of (fun _ => XS.icmpYes H0.here hx rfl (pc0 := 10) (pc' := 25) rfl (hb hby d_3_10) rfl (teq hbr2).1 (by decide) (by decide)) ?_
      show Go p e below _ s₁ (mkF m 25 #[.val (.ref b1), .val (.int p1), .val (.int i1)] [])
      refine Go.of (fun _ => XS.iconst H0.here hx rfl (hb hby d_3_25)) ?_
      show Go p e below _ s₁ (mkF m 26 #[.val (.ref b1), .val (.int p1), .val (.int i1)] [(.int (0 : Int32))])
      exact own_retN H0 hx hlk (t := .boolean) hret (by simp) (hb hby d_3_26) ⟨by rw [if_neg (fun q => by simp [own_bl, hbr2] at q)]; rfl, rfl⟩ (by decide) (by decide)
    · skip
      refine Go.of (fun _ => XS.icmpNo H0.here hx rfl (hb hby d_3_10) rfl (feq hbr2).1) ?_
      show Go p e below _ s₁ (mkF m 13 #[.val (.ref b1), .val (.int p1), .val (.int i1)] [])
      refine Go.of (fun _ => XS.aloadN H0.here hx rfl (hb hby d_3_13) rfl rfl) ?_
      show Go p e below _ s₁ (mkF m 14 #[.val (.ref b1), .val (.int p1), .val (.int i1)] [(.ref b1)])
      refine Go.of (fun _ => XS.iloadN H0.here hx rfl (hb hby d_3_14) rfl) ?_
      show Go p e below _ s₁ (mkF m 15 #[.val (.ref b1), .val (.int p1), .val (.int i1)] [(.int i1), (.ref b1)])
      refine own_caload H0 hx V1 hi1 (v := (.int ci)) hci rfl rfl (hb hby d_3_15) ?_
      show Go p e below _ s₁ (mkF m 16 #[.val (.ref b1), .val (.int p1), .val (.int i1)] [(.int ci)])
      refine Go.of (fun _ => XS.bipush H0.here hx rfl (hb hby d_3_16)) ?_
      show Go p e below _ s₁ (mkF m 18 #[.val (.ref b1), .val (.int p1), .val (.int i1)] [(.int (9 : Int32)), (.int ci)])
      by_cases hbr3 : ci = (9 : Int32)
      · skip
        refine Go.of (fun _ => XS.icmpYes H0.here hx rfl (pc0 := 18) (pc' := 25) rfl (hb hby d_3_18) rfl (teq hbr3).1 (by decide) (by decide)) ?_
        show Go p e below _ s₁ (mkF m 25 #[.val (.ref b1), .val (.int p1), .val (.int i1)] [])
        refine Go.of (fun _ => XS.iconst H0.here hx rfl (hb hby d_3_25)) ?_
        show Go p e below _ s₁ (mkF m 26 #[.val (.ref b1), .val (.int p1), .val (.int i1)] [(.int (0 : Int32))])
        exact own_retN H0 hx hlk (t := .boolean) hret (by simp) (hb hby d_3_26) ⟨by rw [if_neg (fun q => by simp [own_bl, hbr3] at q)]; rfl, rfl⟩ (by decide) (by decide)
      · skip
        refine Go.of (fun _ => XS.icmpNo H0.here hx rfl (hb hby d_3_18) rfl (feq hbr3).1) ?_
        show Go p e below _ s₁ (mkF m 21 #[.val (.ref b1), .val (.int p1), .val (.int i1)] [])
        refine Go.of (fun _ => XS.iconst H0.here hx rfl (hb hby d_3_21)) ?_
        show Go p e below _ s₁ (mkF m 22 #[.val (.ref b1), .val (.int p1), .val (.int i1)] [(.int (1 : Int32))])
        refine Go.of (fun _ => XS.goto H0.here hx rfl (pc0 := 22) (pc' := 26) rfl (hb hby d_3_22) (by decide) (by decide)) ?_
        show Go p e below _ s₁ (mkF m 26 #[.val (.ref b1), .val (.int p1), .val (.int i1)] [(.int (1 : Int32))])
        exact own_retN H0 hx hlk (t := .boolean) hret (by simp) (hb hby d_3_26) ⟨by rw [if_pos ⟨hbr1, by simp [own_bl, hbr2, hbr3]⟩]; rfl, rfl⟩ (by decide) (by decide)
  · skip
    refine Go.of (fun _ => XS.icmpYes H0.here hx rfl (pc0 := 2) (pc' := 25) rfl (hb hby d_3_2) rfl (flt hbr1).2.1 (by decide) (by decide)) ?_
    show Go p e below _ s₁ (mkF m 25 #[.val (.ref b1), .val (.int p1), .val (.int i1)] [])
    refine Go.of (fun _ => XS.iconst H0.here hx rfl (hb hby d_3_25)) ?_
    show Go p e below _ s₁ (mkF m 26 #[.val (.ref b1), .val (.int p1), .val (.int i1)] [(.int (0 : Int32))])
    exact own_retN H0 hx hlk (t := .boolean) hret (by simp) (hb hby d_3_26) ⟨by rw [if_neg (fun q => hbr1 q.1)]; rfl, rfl⟩ (by decide) (by decide)
set_option maxRecDepth 65536 in
set_option maxHeartbeats 40000000 in
theorem rm_make (l : Launch) (Z : State) (a0 : Array Value) (hw : ∀ d ∈ tables_1, d.before a0 Z = true) (hE : EW Z a0 ELx) (b1 : Addr) (kc : ClassId) (c0 : Int32) (c1 : Int32) (c2 : Int32) (c3 : Int32) (p1 : Int32) (zc : Int32) (h0 : Heap) (O0 : Ext Z.heap h0) (V1 : Arv Z h0 b1 kc .char (4 : Int32) [.int c0, .int c1, .int c2, .int c3] (.int (0 : Int32))) (hc0 : ¬ c0 < 0 ∧ ¬ (255 : Int32) < c0) (hc1 : ¬ c1 < 0 ∧ ¬ (255 : Int32) < c1) (hc2 : ¬ c2 < 0 ∧ ¬ (255 : Int32) < c2) (hc3 : ¬ c3 < 0 ∧ ¬ (255 : Int32) < c3) (SC : Sta Z Z.heap "java/lang/String" "COMPACT_STRINGS" "Z" (.int zc)) (hzc : ¬ zc = 0) :
    Ct l Z ELx a0 true (⟨"com/example/brokerward/brokerward/http/RequestHeadTrimPinLaw", "make", "([CI)Ljava/lang/String;"⟩ : MethodName) method_4_code 2 (some (.object "java/lang/String")) [] ({ frames := 4, cells := 6, slots := 14, locals := 67 } : Room) #[(.ref b1), (.int p1)] h0 [] (fun v h => ∃ r, v = some (.ref r) ∧ Keep h0 h [] ∧ h0.size ≤ r ∧ own_str Z h r (own_tk p1 c0 c1 c2 c3)) := by
  refine own_enter (plainFor_of_name pn_1) hE O0 ?_
  intro p e s m below meth c s₁ hx hby hml hown hnm hret hlk H0
  refine Go.eq (ef_rm_make m b1 p1) ?_
  have K1 : Keep h0 h0 [] := Keep.refl _ _
  have hst := own_hst hw
  show Go p e below _ s₁ (mkF m 0 #[.val (.ref b1), .val (.int p1)] [])
  refine Go.of (fun _ => XS.iloadN H0.here hx rfl (hb hby d_4_0) rfl) ?_
  show Go p e below _ s₁ (mkF m 1 #[.val (.ref b1), .val (.int p1)] [(.int p1)])
  by_cases hbr2 : p1 = (0 : Int32)
  · skip
    refine Go.of (fun _ => XS.ifNo H0.here hx rfl (hb hby d_4_1) rfl ((if0 _ _).trans (teq hbr2).2)) ?_
    show Go p e below _ s₁ (mkF m 4 #[.val (.ref b1), .val (.int p1)] [])
    refine own_new H0 hx hown (ow hw 9 rfl) (ow hw 10 rfl) (ow hw 11 rfl) rfl (hb hby d_4_4) (by decide) (by decide) fun T3 h5 b6 g7 H4 E8 A9 D10 => ?_
    have ne11 : b1 ≠ b6 := by rw [g7]; exact Nat.ne_of_lt V1.lt
    have fr12 : Z.heap.size ≤ b6 := by rw [g7]; exact H0.old.1
    have sz13 : h0.size ≤ b6 := by rw [g7]; exact K1.1
    have K14 : Keep h0 h5 [] := K1.ext E8
    have f15 := V1.ext E8
    have f16 : Fld Z h5 b6 "java/lang/String" "value" "[B" .null := D10 (Or.inr (ow hw 24 rfl)) (ty := (.array .byte)) (by decide)
    have f17 : Fld Z h5 b6 "java/lang/String" "coder" "B" (.int (0 : Int32)) := D10 (Or.inr (ow hw 25 rfl)) (ty := .byte) (by decide)
    show Go p e below _ T3 (mkF m 7 #[.val (.ref b1), .val (.int p1)] [(.ref b6)])
    refine Go.of (fun _ => XS.dup H4.here hx rfl (hb hby d_4_7) rfl rfl) ?_
    show Go p e below _ T3 (mkF m 8 #[.val (.ref b1), .val (.int p1)] [(.ref b6), (.ref b6)])
    refine Go.of (fun _ => XS.iconst H4.here hx rfl (hb hby d_4_8)) ?_
    show Go p e below _ T3 (mkF m 9 #[.val (.ref b1), .val (.int p1)] [(.int (0 : Int32)), (.ref b6), (.ref b6)])
    refine own_newP H4 hx (ow hw 1 rfl) rfl (hb hby d_4_9) rfl (by decide) (cap := 0) (by decide) (by decide) (by decide) (by decide) fun T18 h20 b21 kA24 g22 H19 E23 V25 => ?_
    have ne26 : b1 ≠ b21 := by rw [g22]; exact Nat.ne_of_lt f15.lt
    have ne27 : b6 ≠ b21 := by rw [g22]; exact Nat.ne_of_lt A9.lt
    have fr28 : Z.heap.size ≤ b21 := by rw [g22]; exact H4.old.1
    have sz29 : h0.size ≤ b21 := by rw [g22]; exact K14.1
    have K30 : Keep h0 h20 [] := K14.ext E23
    have f31 := f15.ext E23
    have f32 := A9.ext E23
    have f33 := f16.ext E23
    have f34 := f17.ext E23
    have V35 : Arv Z h20 b21 kA24 .char (0 : Int32) [] (.int (0 : Int32)) := V25.pad (pad_rep [] (.int (0 : Int32)) 0)
    show Go p e below _ T18 (mkF m 11 #[.val (.ref b1), .val (.int p1)] [(.ref b21), (.ref b6), (.ref b6)])
    refine own_specialW H19 hx (y := (⟨"java/lang/String", "<init>", "([C)V"⟩ : MethodName)) rfl hown (ow hw 12 rfl) (ow hw 13 rfl) (ow hw 11 rfl) (ow hw 14 rfl) (by decide) (W := 1) (rm_s1 l Z a0 hw hE b6 b21 _ _ h20 H19.old f32 f33 f34 fr12 V35) (allS (List.mem_of_getElem? (i := 1) rfl) all0) (by decide) (by decide) rfl (by rw [hml]; rfl) (a := b6) (argsL := [(.ref b21)]) (rest := [(.ref b6)]) rfl (lenOf pd_1 rfl) rfl (by show 2 * 0 + _ ≤ _; exact Nat.le_of_eq rfl) (hb hby d_4_11) (by decide) (by decide) fun T36 h38 v40 H37 hs41 q39 => ?_
    obtain ⟨rfl, KK, SS⟩ := q39
    have K42 : Keep h0 h38 [] := K30.trans KK (allS (Or.inr sz13) all0)
    show Go p e below _ T36 (mkF m 14 #[.val (.ref b1), .val (.int p1)] [(.ref b6)])
    exact own_retA H37 hx hlk hret rfl rfl (hb hby d_4_14) ⟨b6, rfl, K42, sz13, by unfold own_tk; rw [if_pos hbr2]; exact SS⟩ (by decide) (by decide)
  · skip
    refine Go.of (fun _ => XS.ifYes H0.here hx rfl (pc0 := 1) (pc' := 15) rfl (hb hby d_4_1) rfl ((if0 _ _).trans (feq hbr2).2) (by decide) (by decide)) ?_
    show Go p e below _ s₁ (mkF m 15 #[.val (.ref b1), .val (.int p1)] [])
    refine Go.of (fun _ => XS.iloadN H0.here hx rfl (hb hby d_4_15) rfl) ?_
    show Go p e below _ s₁ (mkF m 16 #[.val (.ref b1), .val (.int p1)] [(.int p1)])
    refine Go.of (fun _ => XS.iconst H0.here hx rfl (hb hby d_4_16)) ?_
    show Go p e below _ s₁ (mkF m 17 #[.val (.ref b1), .val (.int p1)] [(.int (1 : Int32)), (.int p1)])
    by_cases hbr43 : p1 = (1 : Int32)
    · skip
      refine Go.of (fun _ => XS.icmpNo H0.here hx rfl (hb hby d_4_17) rfl (teq hbr43).2) ?_
      show Go p e below _ s₁ (mkF m 20 #[.val (.ref b1), .val (.int p1)] [])
      refine own_new H0 hx hown (ow hw 9 rfl) (ow hw 10 rfl) (ow hw 11 rfl) rfl (hb hby d_4_20) (by decide) (by decide) fun T44 h46 b47 g48 H45 E49 A50 D51 => ?_
      have ne52 : b1 ≠ b47 := by rw [g48]; exact Nat.ne_of_lt V1.lt
      have fr53 : Z.heap.size ≤ b47 := by rw [g48]; exact H0.old.1
      have sz54 : h0.size ≤ b47 := by rw [g48]; exact K1.1
      have K55 : Keep h0 h46 [] := K1.ext E49
      have f56 := V1.ext E49
      have f57 : Fld Z h46 b47 "java/lang/String" "value" "[B" .null := D51 (Or.inr (ow hw 24 rfl)) (ty := (.array .byte)) (by decide)
      have f58 : Fld Z h46 b47 "java/lang/String" "coder" "B" (.int (0 : Int32)) := D51 (Or.inr (ow hw 25 rfl)) (ty := .byte) (by decide)
      show Go p e below _ T44 (mkF m 23 #[.val (.ref b1), .val (.int p1)] [(.ref b47)])
      refine Go.of (fun _ => XS.dup H45.here hx rfl (hb hby d_4_23) rfl rfl) ?_
      show Go p e below _ T44 (mkF m 24 #[.val (.ref b1), .val (.int p1)] [(.ref b47), (.ref b47)])
      refine Go.of (fun _ => XS.iconst H45.here hx rfl (hb hby d_4_24)) ?_
      show Go p e below _ T44 (mkF m 25 #[.val (.ref b1), .val (.int p1)] [(.int (1 : Int32)), (.ref b47), (.ref b47)])
      refine own_newP H45 hx (ow hw 1 rfl) rfl (hb hby d_4_25) rfl (by decide) (cap := 1) (by decide) (by decide) (by decide) (by decide) fun T59 h61 b62 kA65 g63 H60 E64 V66 => ?_
      have ne67 : b1 ≠ b62 := by rw [g63]; exact Nat.ne_of_lt f56.lt
      have ne68 : b47 ≠ b62 := by rw [g63]; exact Nat.ne_of_lt A50.lt
      have fr69 : Z.heap.size ≤ b62 := by rw [g63]; exact H45.old.1
      have sz70 : h0.size ≤ b62 := by rw [g63]; exact K55.1
      have K71 : Keep h0 h61 [] := K55.ext E64
      have f72 := f56.ext E64
      have f73 := A50.ext E64
      have f74 := f57.ext E64
      have f75 := f58.ext E64
      have V76 : Arv Z h61 b62 kA65 .char (1 : Int32) [(.int (0 : Int32))] (.int (0 : Int32)) := V66.pad (pad_rep [] (.int (0 : Int32)) 1)
      show Go p e below _ T59 (mkF m 27 #[.val (.ref b1), .val (.int p1)] [(.ref b62), (.ref b47), (.ref b47)])
      refine Go.of (fun _ => XS.dup H60.here hx rfl (hb hby d_4_27) rfl rfl) ?_
      show Go p e below _ T59 (mkF m 28 #[.val (.ref b1), .val (.int p1)] [(.ref b62), (.ref b62), (.ref b47), (.ref b47)])
      refine Go.of (fun _ => XS.iconst H60.here hx rfl (hb hby d_4_28)) ?_
      show Go p e below _ T59 (mkF m 29 #[.val (.ref b1), .val (.int p1)] [(.int (0 : Int32)), (.ref b62), (.ref b62), (.ref b47), (.ref b47)])
      refine Go.of (fun _ => XS.aloadN H60.here hx rfl (hb hby d_4_29) rfl rfl) ?_
      show Go p e below _ T59 (mkF m 30 #[.val (.ref b1), .val (.int p1)] [(.ref b1), (.int (0 : Int32)), (.ref b62), (.ref b62), (.ref b47), (.ref b47)])
      refine Go.of (fun _ => XS.iconst H60.here hx rfl (hb hby d_4_30)) ?_
      show Go p e below _ T59 (mkF m 31 #[.val (.ref b1), .val (.int p1)] [(.int (0 : Int32)), (.ref b1), (.int (0 : Int32)), (.ref b62), (.ref b62), (.ref b47), (.ref b47)])
      refine own_caload H60 hx f72 ⟨by decide, by decide⟩ (v := (.int c0)) rfl rfl rfl (hb hby d_4_31) ?_
      show Go p e below _ T59 (mkF m 32 #[.val (.ref b1), .val (.int p1)] [(.int c0), (.int (0 : Int32)), (.ref b62), (.ref b62), (.ref b47), (.ref b47)])
      refine own_castore H60 hx V76 ⟨by decide, by decide⟩ 0 (by decide) (Nat.le_of_ble_eq_true rfl) fr69 rfl rfl (hb hby d_4_32) fun T77 h79 H78 W80 V81 => ?_
      have K82 : Keep h0 h79 [] := K71.wr W80 (Or.inr sz70)
      have f83 := f72.other W80 ne67
      have f84 := f73.wr W80
      have f85 := f74.other W80 (Or.inl ne68)
      have f86 := f75.other W80 (Or.inl ne68)
      have V88 : Arv Z h79 b62 kA65 .char (1 : Int32) [(.int (nar .char c0))] (.int (0 : Int32)) := V81
      show Go p e below _ T77 (mkF m 33 #[.val (.ref b1), .val (.int p1)] [(.ref b62), (.ref b47), (.ref b47)])
      have hV : Arv Z h79 b62 kA65 .char (1 : Int32) (([c0] : List Int32).map Value.int) (.int (0 : Int32)) := by have := V88; rw [own_narc hc0] at this; exact this
      refine own_newS H78 hx hown (ow hw 12 rfl) (ow hw 13 rfl) (ow hw 14 rfl) (own_hws hw) (ow hw 10 rfl) f84 f85 f86 hV SC hzc (ln := 1) rfl rfl (by decide) (by decide) (allC hc0 all0c) (by decide) (W := 1) (by decide) fr53 (List.mem_of_getElem? (i := 1) rfl) rfl (by rw [hml]; rfl) rfl (by show 2 * 0 + _ ≤ _; exact Nat.le_of_eq rfl) (hb hby d_4_33) (by decide) (by decide) fun T89 h91 H90 KK SS => ?_
      have K92 : Keep h0 h91 [] := K82.trans KK (allS (Or.inr sz54) all0)
      show Go p e below _ T89 (mkF m 36 #[.val (.ref b1), .val (.int p1)] [(.ref b47)])
      exact own_retA H90 hx hlk hret rfl rfl (hb hby d_4_36) ⟨b47, rfl, K92, sz54, by unfold own_tk; rw [if_neg hbr2, if_pos hbr43]; exact SS⟩ (by decide) (by decide)
    · skip
      refine Go.of (fun _ => XS.icmpYes H0.here hx rfl (pc0 := 17) (pc' := 37) rfl (hb hby d_4_17) rfl (feq hbr43).2 (by decide) (by decide)) ?_
      show Go p e below _ s₁ (mkF m 37 #[.val (.ref b1), .val (.int p1)] [])
      refine Go.of (fun _ => XS.iloadN H0.here hx rfl (hb hby d_4_37) rfl) ?_
      show Go p e below _ s₁ (mkF m 38 #[.val (.ref b1), .val (.int p1)] [(.int p1)])
      refine Go.of (fun _ => XS.iconst H0.here hx rfl (hb hby d_4_38)) ?_
      show Go p e below _ s₁ (mkF m 39 #[.val (.ref b1), .val (.int p1)] [(.int (2 : Int32)), (.int p1)])
      by_cases hbr93 : p1 = (2 : Int32)
      · skip
        refine Go.of (fun _ => XS.icmpNo H0.here hx rfl (hb hby d_4_39) rfl (teq hbr93).2) ?_
        show Go p e below _ s₁ (mkF m 42 #[.val (.ref b1), .val (.int p1)] [])
        refine own_new H0 hx hown (ow hw 9 rfl) (ow hw 10 rfl) (ow hw 11 rfl) rfl (hb hby d_4_42) (by decide) (by decide) fun T94 h96 b97 g98 H95 E99 A100 D101 => ?_
        have ne102 : b1 ≠ b97 := by rw [g98]; exact Nat.ne_of_lt V1.lt
        have fr103 : Z.heap.size ≤ b97 := by rw [g98]; exact H0.old.1
        have sz104 : h0.size ≤ b97 := by rw [g98]; exact K1.1
        have K105 : Keep h0 h96 [] := K1.ext E99
        have f106 := V1.ext E99
        have f107 : Fld Z h96 b97 "java/lang/String" "value" "[B" .null := D101 (Or.inr (ow hw 24 rfl)) (ty := (.array .byte)) (by decide)
        have f108 : Fld Z h96 b97 "java/lang/String" "coder" "B" (.int (0 : Int32)) := D101 (Or.inr (ow hw 25 rfl)) (ty := .byte) (by decide)
        show Go p e below _ T94 (mkF m 45 #[.val (.ref b1), .val (.int p1)] [(.ref b97)])
        refine Go.of (fun _ => XS.dup H95.here hx rfl (hb hby d_4_45) rfl rfl) ?_
        show Go p e below _ T94 (mkF m 46 #[.val (.ref b1), .val (.int p1)] [(.ref b97), (.ref b97)])
        refine Go.of (fun _ => XS.iconst H95.here hx rfl (hb hby d_4_46)) ?_
        show Go p e below _ T94 (mkF m 47 #[.val (.ref b1), .val (.int p1)] [(.int (2 : Int32)), (.ref b97), (.ref b97)])
        refine own_newP H95 hx (ow hw 1 rfl) rfl (hb hby d_4_47) rfl (by decide) (cap := 2) (by decide) (by decide) (by decide) (by decide) fun T109 h111 b112 kA115 g113 H110 E114 V116 => ?_
        have ne117 : b1 ≠ b112 := by rw [g113]; exact Nat.ne_of_lt f106.lt
        have ne118 : b97 ≠ b112 := by rw [g113]; exact Nat.ne_of_lt A100.lt
        have fr119 : Z.heap.size ≤ b112 := by rw [g113]; exact H95.old.1
        have sz120 : h0.size ≤ b112 := by rw [g113]; exact K105.1
        have K121 : Keep h0 h111 [] := K105.ext E114
        have f122 := f106.ext E114
        have f123 := A100.ext E114
        have f124 := f107.ext E114
        have f125 := f108.ext E114
        have V126 : Arv Z h111 b112 kA115 .char (2 : Int32) [(.int (0 : Int32)), (.int (0 : Int32))] (.int (0 : Int32)) := V116.pad (pad_rep [] (.int (0 : Int32)) 2)
        show Go p e below _ T109 (mkF m 49 #[.val (.ref b1), .val (.int p1)] [(.ref b112), (.ref b97), (.ref b97)])
        refine Go.of (fun _ => XS.dup H110.here hx rfl (hb hby d_4_49) rfl rfl) ?_
        show Go p e below _ T109 (mkF m 50 #[.val (.ref b1), .val (.int p1)] [(.ref b112), (.ref b112), (.ref b97), (.ref b97)])
        refine Go.of (fun _ => XS.iconst H110.here hx rfl (hb hby d_4_50)) ?_
        show Go p e below _ T109 (mkF m 51 #[.val (.ref b1), .val (.int p1)] [(.int (0 : Int32)), (.ref b112), (.ref b112), (.ref b97), (.ref b97)])
        refine Go.of (fun _ => XS.aloadN H110.here hx rfl (hb hby d_4_51) rfl rfl) ?_
        show Go p e below _ T109 (mkF m 52 #[.val (.ref b1), .val (.int p1)] [(.ref b1), (.int (0 : Int32)), (.ref b112), (.ref b112), (.ref b97), (.ref b97)])
        refine Go.of (fun _ => XS.iconst H110.here hx rfl (hb hby d_4_52)) ?_
        show Go p e below _ T109 (mkF m 53 #[.val (.ref b1), .val (.int p1)] [(.int (0 : Int32)), (.ref b1), (.int (0 : Int32)), (.ref b112), (.ref b112), (.ref b97), (.ref b97)])
        refine own_caload H110 hx f122 ⟨by decide, by decide⟩ (v := (.int c0)) rfl rfl rfl (hb hby d_4_53) ?_
        show Go p e below _ T109 (mkF m 54 #[.val (.ref b1), .val (.int p1)] [(.int c0), (.int (0 : Int32)), (.ref b112), (.ref b112), (.ref b97), (.ref b97)])
        refine own_castore H110 hx V126 ⟨by decide, by decide⟩ 0 (by decide) (Nat.le_of_ble_eq_true rfl) fr119 rfl rfl (hb hby d_4_54) fun T127 h129 H128 W130 V131 => ?_
        have K132 : Keep h0 h129 [] := K121.wr W130 (Or.inr sz120)
        have f133 := f122.other W130 ne117
        have f134 := f123.wr W130
        have f135 := f124.other W130 (Or.inl ne118)
        have f136 := f125.other W130 (Or.inl ne118)
        have V138 : Arv Z h129 b112 kA115 .char (2 : Int32) [(.int (nar .char c0)), (.int (0 : Int32))] (.int (0 : Int32)) := V131
        show Go p e below _ T127 (mkF m 55 #[.val (.ref b1), .val (.int p1)] [(.ref b112), (.ref b97), (.ref b97)])
        refine Go.of (fun _ => XS.dup H128.here hx rfl (hb hby d_4_55) rfl rfl) ?_
        show Go p e below _ T127 (mkF m 56 #[.val (.ref b1), .val (.int p1)] [(.ref b112), (.ref b112), (.ref b97), (.ref b97)])
        refine Go.of (fun _ => XS.iconst H128.here hx rfl (hb hby d_4_56)) ?_
        show Go p e below _ T127 (mkF m 57 #[.val (.ref b1), .val (.int p1)] [(.int (1 : Int32)), (.ref b112), (.ref b112), (.ref b97), (.ref b97)])
        refine Go.of (fun _ => XS.aloadN H128.here hx rfl (hb hby d_4_57) rfl rfl) ?_
        show Go p e below _ T127 (mkF m 58 #[.val (.ref b1), .val (.int p1)] [(.ref b1), (.int (1 : Int32)), (.ref b112), (.ref b112), (.ref b97), (.ref b97)])
        refine Go.of (fun _ => XS.iconst H128.here hx rfl (hb hby d_4_58)) ?_
        show Go p e below _ T127 (mkF m 59 #[.val (.ref b1), .val (.int p1)] [(.int (1 : Int32)), (.ref b1), (.int (1 : Int32)), (.ref b112), (.ref b112), (.ref b97), (.ref b97)])
        refine own_caload H128 hx f133 ⟨by decide, by decide⟩ (v := (.int c1)) rfl rfl rfl (hb hby d_4_59) ?_
        show Go p e below _ T127 (mkF m 60 #[.val (.ref b1), .val (.int p1)] [(.int c1), (.int (1 : Int32)), (.ref b112), (.ref b112), (.ref b97), (.ref b97)])
        refine own_castore H128 hx V138 ⟨by decide, by decide⟩ 1 (by decide) (Nat.le_of_ble_eq_true rfl) fr119 rfl rfl (hb hby d_4_60) fun T139 h141 H140 W142 V143 => ?_
        have K144 : Keep h0 h141 [] := K132.wr W142 (Or.inr sz120)
        have f145 := f133.other W142 ne117
        have f146 := f134.wr W142
        have f147 := f135.other W142 (Or.inl ne118)
        have f148 := f136.other W142 (Or.inl ne118)
        have V150 : Arv Z h141 b112 kA115 .char (2 : Int32) [(.int (nar .char c0)), (.int (nar .char c1))] (.int (0 : Int32)) := V143
        show Go p e below _ T139 (mkF m 61 #[.val (.ref b1), .val (.int p1)] [(.ref b112), (.ref b97), (.ref b97)])
        have hV : Arv Z h141 b112 kA115 .char (2 : Int32) (([c0, c1] : List Int32).map Value.int) (.int (0 : Int32)) := by have := V150; rw [own_narc hc0, own_narc hc1] at this; exact this
        refine own_newS H140 hx hown (ow hw 12 rfl) (ow hw 13 rfl) (ow hw 14 rfl) (own_hws hw) (ow hw 10 rfl) f146 f147 f148 hV SC hzc (ln := 2) rfl rfl (by decide) (by decide) (allC hc0 (allC hc1 all0c)) (by decide) (W := 1) (by decide) fr103 (List.mem_of_getElem? (i := 1) rfl) rfl (by rw [hml]; rfl) rfl (by show 2 * 0 + _ ≤ _; exact Nat.le_of_eq rfl) (hb hby d_4_61) (by decide) (by decide) fun T151 h153 H152 KK SS => ?_
        have K154 : Keep h0 h153 [] := K144.trans KK (allS (Or.inr sz104) all0)
        show Go p e below _ T151 (mkF m 64 #[.val (.ref b1), .val (.int p1)] [(.ref b97)])
        exact own_retA H152 hx hlk hret rfl rfl (hb hby d_4_64) ⟨b97, rfl, K154, sz104, by unfold own_tk; rw [if_neg hbr2, if_neg hbr43, if_pos hbr93]; exact SS⟩ (by decide) (by decide)
      · skip
        refine Go.of (fun _ => XS.icmpYes H0.here hx rfl (pc0 := 39) (pc' := 65) rfl (hb hby d_4_39) rfl (feq hbr93).2 (by decide) (by decide)) ?_
        show Go p e below _ s₁ (mkF m 65 #[.val (.ref b1), .val (.int p1)] [])
        refine Go.of (fun _ => XS.iloadN H0.here hx rfl (hb hby d_4_65) rfl) ?_
        show Go p e below _ s₁ (mkF m 66 #[.val (.ref b1), .val (.int p1)] [(.int p1)])
        refine Go.of (fun _ => XS.iconst H0.here hx rfl (hb hby d_4_66)) ?_
        show Go p e below _ s₁ (mkF m 67 #[.val (.ref b1), .val (.int p1)] [(.int (3 : Int32)), (.int p1)])
        by_cases hbr155 : p1 = (3 : Int32)
        · skip
          refine Go.of (fun _ => XS.icmpNo H0.here hx rfl (hb hby d_4_67) rfl (teq hbr155).2) ?_
          show Go p e below _ s₁ (mkF m 70 #[.val (.ref b1), .val (.int p1)] [])
          refine own_new H0 hx hown (ow hw 9 rfl) (ow hw 10 rfl) (ow hw 11 rfl) rfl (hb hby d_4_70) (by decide) (by decide) fun T156 h158 b159 g160 H157 E161 A162 D163 => ?_
          have ne164 : b1 ≠ b159 := by rw [g160]; exact Nat.ne_of_lt V1.lt
          have fr165 : Z.heap.size ≤ b159 := by rw [g160]; exact H0.old.1
          have sz166 : h0.size ≤ b159 := by rw [g160]; exact K1.1
          have K167 : Keep h0 h158 [] := K1.ext E161
          have f168 := V1.ext E161
          have f169 : Fld Z h158 b159 "java/lang/String" "value" "[B" .null := D163 (Or.inr (ow hw 24 rfl)) (ty := (.array .byte)) (by decide)
          have f170 : Fld Z h158 b159 "java/lang/String" "coder" "B" (.int (0 : Int32)) := D163 (Or.inr (ow hw 25 rfl)) (ty := .byte) (by decide)
          show Go p e below _ T156 (mkF m 73 #[.val (.ref b1), .val (.int p1)] [(.ref b159)])
          refine Go.of (fun _ => XS.dup H157.here hx rfl (hb hby d_4_73) rfl rfl) ?_
          show Go p e below _ T156 (mkF m 74 #[.val (.ref b1), .val (.int p1)] [(.ref b159), (.ref b159)])
          refine Go.of (fun _ => XS.iconst H157.here hx rfl (hb hby d_4_74)) ?_
          show Go p e below _ T156 (mkF m 75 #[.val (.ref b1), .val (.int p1)] [(.int (3 : Int32)), (.ref b159), (.ref b159)])
          refine own_newP H157 hx (ow hw 1 rfl) rfl (hb hby d_4_75) rfl (by decide) (cap := 3) (by decide) (by decide) (by decide) (by decide) fun T171 h173 b174 kA177 g175 H172 E176 V178 => ?_
          have ne179 : b1 ≠ b174 := by rw [g175]; exact Nat.ne_of_lt f168.lt
          have ne180 : b159 ≠ b174 := by rw [g175]; exact Nat.ne_of_lt A162.lt
          have fr181 : Z.heap.size ≤ b174 := by rw [g175]; exact H157.old.1
          have sz182 : h0.size ≤ b174 := by rw [g175]; exact K167.1
          have K183 : Keep h0 h173 [] := K167.ext E176
          have f184 := f168.ext E176
          have f185 := A162.ext E176
          have f186 := f169.ext E176
          have f187 := f170.ext E176
          have V188 : Arv Z h173 b174 kA177 .char (3 : Int32) [(.int (0 : Int32)), (.int (0 : Int32)), (.int (0 : Int32))] (.int (0 : Int32)) := V178.pad (pad_rep [] (.int (0 : Int32)) 3)
          show Go p e below _ T171 (mkF m 77 #[.val (.ref b1), .val (.int p1)] [(.ref b174), (.ref b159), (.ref b159)])
          refine Go.of (fun _ => XS.dup H172.here hx rfl (hb hby d_4_77) rfl rfl) ?_
          show Go p e below _ T171 (mkF m 78 #[.val (.ref b1), .val (.int p1)] [(.ref b174), (.ref b174), (.ref b159), (.ref b159)])
          refine Go.of (fun _ => XS.iconst H172.here hx rfl (hb hby d_4_78)) ?_
          show Go p e below _ T171 (mkF m 79 #[.val (.ref b1), .val (.int p1)] [(.int (0 : Int32)), (.ref b174), (.ref b174), (.ref b159), (.ref b159)])
          refine Go.of (fun _ => XS.aloadN H172.here hx rfl (hb hby d_4_79) rfl rfl) ?_
          show Go p e below _ T171 (mkF m 80 #[.val (.ref b1), .val (.int p1)] [(.ref b1), (.int (0 : Int32)), (.ref b174), (.ref b174), (.ref b159), (.ref b159)])
          refine Go.of (fun _ => XS.iconst H172.here hx rfl (hb hby d_4_80)) ?_
          show Go p e below _ T171 (mkF m 81 #[.val (.ref b1), .val (.int p1)] [(.int (0 : Int32)), (.ref b1), (.int (0 : Int32)), (.ref b174), (.ref b174), (.ref b159), (.ref b159)])
          refine own_caload H172 hx f184 ⟨by decide, by decide⟩ (v := (.int c0)) rfl rfl rfl (hb hby d_4_81) ?_
          show Go p e below _ T171 (mkF m 82 #[.val (.ref b1), .val (.int p1)] [(.int c0), (.int (0 : Int32)), (.ref b174), (.ref b174), (.ref b159), (.ref b159)])
          refine own_castore H172 hx V188 ⟨by decide, by decide⟩ 0 (by decide) (Nat.le_of_ble_eq_true rfl) fr181 rfl rfl (hb hby d_4_82) fun T189 h191 H190 W192 V193 => ?_
          have K194 : Keep h0 h191 [] := K183.wr W192 (Or.inr sz182)
          have f195 := f184.other W192 ne179
          have f196 := f185.wr W192
          have f197 := f186.other W192 (Or.inl ne180)
          have f198 := f187.other W192 (Or.inl ne180)
          have V200 : Arv Z h191 b174 kA177 .char (3 : Int32) [(.int (nar .char c0)), (.int (0 : Int32)), (.int (0 : Int32))] (.int (0 : Int32)) := V193
          show Go p e below _ T189 (mkF m 83 #[.val (.ref b1), .val (.int p1)] [(.ref b174), (.ref b159), (.ref b159)])
          refine Go.of (fun _ => XS.dup H190.here hx rfl (hb hby d_4_83) rfl rfl) ?_
          show Go p e below _ T189 (mkF m 84 #[.val (.ref b1), .val (.int p1)] [(.ref b174), (.ref b174), (.ref b159), (.ref b159)])
          refine Go.of (fun _ => XS.iconst H190.here hx rfl (hb hby d_4_84)) ?_
          show Go p e below _ T189 (mkF m 85 #[.val (.ref b1), .val (.int p1)] [(.int (1 : Int32)), (.ref b174), (.ref b174), (.ref b159), (.ref b159)])
          refine Go.of (fun _ => XS.aloadN H190.here hx rfl (hb hby d_4_85) rfl rfl) ?_
          show Go p e below _ T189 (mkF m 86 #[.val (.ref b1), .val (.int p1)] [(.ref b1), (.int (1 : Int32)), (.ref b174), (.ref b174), (.ref b159), (.ref b159)])
          refine Go.of (fun _ => XS.iconst H190.here hx rfl (hb hby d_4_86)) ?_
          show Go p e below _ T189 (mkF m 87 #[.val (.ref b1), .val (.int p1)] [(.int (1 : Int32)), (.ref b1), (.int (1 : Int32)), (.ref b174), (.ref b174), (.ref b159), (.ref b159)])
          refine own_caload H190 hx f195 ⟨by decide, by decide⟩ (v := (.int c1)) rfl rfl rfl (hb hby d_4_87) ?_
          show Go p e below _ T189 (mkF m 88 #[.val (.ref b1), .val (.int p1)] [(.int c1), (.int (1 : Int32)), (.ref b174), (.ref b174), (.ref b159), (.ref b159)])
          refine own_castore H190 hx V200 ⟨by decide, by decide⟩ 1 (by decide) (Nat.le_of_ble_eq_true rfl) fr181 rfl rfl (hb hby d_4_88) fun T201 h203 H202 W204 V205 => ?_
          have K206 : Keep h0 h203 [] := K194.wr W204 (Or.inr sz182)
          have f207 := f195.other W204 ne179
          have f208 := f196.wr W204
          have f209 := f197.other W204 (Or.inl ne180)
          have f210 := f198.other W204 (Or.inl ne180)
          have V212 : Arv Z h203 b174 kA177 .char (3 : Int32) [(.int (nar .char c0)), (.int (nar .char c1)), (.int (0 : Int32))] (.int (0 : Int32)) := V205
          show Go p e below _ T201 (mkF m 89 #[.val (.ref b1), .val (.int p1)] [(.ref b174), (.ref b159), (.ref b159)])
          refine Go.of (fun _ => XS.dup H202.here hx rfl (hb hby d_4_89) rfl rfl) ?_
          show Go p e below _ T201 (mkF m 90 #[.val (.ref b1), .val (.int p1)] [(.ref b174), (.ref b174), (.ref b159), (.ref b159)])
          refine Go.of (fun _ => XS.iconst H202.here hx rfl (hb hby d_4_90)) ?_
          show Go p e below _ T201 (mkF m 91 #[.val (.ref b1), .val (.int p1)] [(.int (2 : Int32)), (.ref b174), (.ref b174), (.ref b159), (.ref b159)])
          refine Go.of (fun _ => XS.aloadN H202.here hx rfl (hb hby d_4_91) rfl rfl) ?_
          show Go p e below _ T201 (mkF m 92 #[.val (.ref b1), .val (.int p1)] [(.ref b1), (.int (2 : Int32)), (.ref b174), (.ref b174), (.ref b159), (.ref b159)])
          refine Go.of (fun _ => XS.iconst H202.here hx rfl (hb hby d_4_92)) ?_
          show Go p e below _ T201 (mkF m 93 #[.val (.ref b1), .val (.int p1)] [(.int (2 : Int32)), (.ref b1), (.int (2 : Int32)), (.ref b174), (.ref b174), (.ref b159), (.ref b159)])
          refine own_caload H202 hx f207 ⟨by decide, by decide⟩ (v := (.int c2)) rfl rfl rfl (hb hby d_4_93) ?_
          show Go p e below _ T201 (mkF m 94 #[.val (.ref b1), .val (.int p1)] [(.int c2), (.int (2 : Int32)), (.ref b174), (.ref b174), (.ref b159), (.ref b159)])
          refine own_castore H202 hx V212 ⟨by decide, by decide⟩ 2 (by decide) (Nat.le_of_ble_eq_true rfl) fr181 rfl rfl (hb hby d_4_94) fun T213 h215 H214 W216 V217 => ?_
          have K218 : Keep h0 h215 [] := K206.wr W216 (Or.inr sz182)
          have f219 := f207.other W216 ne179
          have f220 := f208.wr W216
          have f221 := f209.other W216 (Or.inl ne180)
          have f222 := f210.other W216 (Or.inl ne180)
          have V224 : Arv Z h215 b174 kA177 .char (3 : Int32) [(.int (nar .char c0)), (.int (nar .char c1)), (.int (nar .char c2))] (.int (0 : Int32)) := V217
          show Go p e below _ T213 (mkF m 95 #[.val (.ref b1), .val (.int p1)] [(.ref b174), (.ref b159), (.ref b159)])
          have hV : Arv Z h215 b174 kA177 .char (3 : Int32) (([c0, c1, c2] : List Int32).map Value.int) (.int (0 : Int32)) := by have := V224; rw [own_narc hc0, own_narc hc1, own_narc hc2] at this; exact this
          refine own_newS H214 hx hown (ow hw 12 rfl) (ow hw 13 rfl) (ow hw 14 rfl) (own_hws hw) (ow hw 10 rfl) f220 f221 f222 hV SC hzc (ln := 3) rfl rfl (by decide) (by decide) (allC hc0 (allC hc1 (allC hc2 all0c))) (by decide) (W := 1) (by decide) fr165 (List.mem_of_getElem? (i := 1) rfl) rfl (by rw [hml]; rfl) rfl (by show 2 * 0 + _ ≤ _; exact Nat.le_of_eq rfl) (hb hby d_4_95) (by decide) (by decide) fun T225 h227 H226 KK SS => ?_
          have K228 : Keep h0 h227 [] := K218.trans KK (allS (Or.inr sz166) all0)
          show Go p e below _ T225 (mkF m 98 #[.val (.ref b1), .val (.int p1)] [(.ref b159)])
          exact own_retA H226 hx hlk hret rfl rfl (hb hby d_4_98) ⟨b159, rfl, K228, sz166, by unfold own_tk; rw [if_neg hbr2, if_neg hbr43, if_neg hbr93, if_pos hbr155]; exact SS⟩ (by decide) (by decide)
        · skip
          refine Go.of (fun _ => XS.icmpYes H0.here hx rfl (pc0 := 67) (pc' := 99) rfl (hb hby d_4_67) rfl (feq hbr155).2 (by decide) (by decide)) ?_
          show Go p e below _ s₁ (mkF m 99 #[.val (.ref b1), .val (.int p1)] [])
          refine own_new H0 hx hown (ow hw 9 rfl) (ow hw 10 rfl) (ow hw 11 rfl) rfl (hb hby d_4_99) (by decide) (by decide) fun T229 h231 b232 g233 H230 E234 A235 D236 => ?_
          have ne237 : b1 ≠ b232 := by rw [g233]; exact Nat.ne_of_lt V1.lt
          have fr238 : Z.heap.size ≤ b232 := by rw [g233]; exact H0.old.1
          have sz239 : h0.size ≤ b232 := by rw [g233]; exact K1.1
          have K240 : Keep h0 h231 [] := K1.ext E234
          have f241 := V1.ext E234
          have f242 : Fld Z h231 b232 "java/lang/String" "value" "[B" .null := D236 (Or.inr (ow hw 24 rfl)) (ty := (.array .byte)) (by decide)
          have f243 : Fld Z h231 b232 "java/lang/String" "coder" "B" (.int (0 : Int32)) := D236 (Or.inr (ow hw 25 rfl)) (ty := .byte) (by decide)
          show Go p e below _ T229 (mkF m 102 #[.val (.ref b1), .val (.int p1)] [(.ref b232)])
          refine Go.of (fun _ => XS.dup H230.here hx rfl (hb hby d_4_102) rfl rfl) ?_
          show Go p e below _ T229 (mkF m 103 #[.val (.ref b1), .val (.int p1)] [(.ref b232), (.ref b232)])
          refine Go.of (fun _ => XS.iconst H230.here hx rfl (hb hby d_4_103)) ?_
          show Go p e below _ T229 (mkF m 104 #[.val (.ref b1), .val (.int p1)] [(.int (4 : Int32)), (.ref b232), (.ref b232)])
          refine own_newP H230 hx (ow hw 1 rfl) rfl (hb hby d_4_104) rfl (by decide) (cap := 4) (by decide) (by decide) (by decide) (by decide) fun T244 h246 b247 kA250 g248 H245 E249 V251 => ?_
          have ne252 : b1 ≠ b247 := by rw [g248]; exact Nat.ne_of_lt f241.lt
          have ne253 : b232 ≠ b247 := by rw [g248]; exact Nat.ne_of_lt A235.lt
          have fr254 : Z.heap.size ≤ b247 := by rw [g248]; exact H230.old.1
          have sz255 : h0.size ≤ b247 := by rw [g248]; exact K240.1
          have K256 : Keep h0 h246 [] := K240.ext E249
          have f257 := f241.ext E249
          have f258 := A235.ext E249
          have f259 := f242.ext E249
          have f260 := f243.ext E249
          have V261 : Arv Z h246 b247 kA250 .char (4 : Int32) [(.int (0 : Int32)), (.int (0 : Int32)), (.int (0 : Int32)), (.int (0 : Int32))] (.int (0 : Int32)) := V251.pad (pad_rep [] (.int (0 : Int32)) 4)
          show Go p e below _ T244 (mkF m 106 #[.val (.ref b1), .val (.int p1)] [(.ref b247), (.ref b232), (.ref b232)])
          refine Go.of (fun _ => XS.dup H245.here hx rfl (hb hby d_4_106) rfl rfl) ?_
          show Go p e below _ T244 (mkF m 107 #[.val (.ref b1), .val (.int p1)] [(.ref b247), (.ref b247), (.ref b232), (.ref b232)])
          refine Go.of (fun _ => XS.iconst H245.here hx rfl (hb hby d_4_107)) ?_
          show Go p e below _ T244 (mkF m 108 #[.val (.ref b1), .val (.int p1)] [(.int (0 : Int32)), (.ref b247), (.ref b247), (.ref b232), (.ref b232)])
          refine Go.of (fun _ => XS.aloadN H245.here hx rfl (hb hby d_4_108) rfl rfl) ?_
          show Go p e below _ T244 (mkF m 109 #[.val (.ref b1), .val (.int p1)] [(.ref b1), (.int (0 : Int32)), (.ref b247), (.ref b247), (.ref b232), (.ref b232)])
          refine Go.of (fun _ => XS.iconst H245.here hx rfl (hb hby d_4_109)) ?_
          show Go p e below _ T244 (mkF m 110 #[.val (.ref b1), .val (.int p1)] [(.int (0 : Int32)), (.ref b1), (.int (0 : Int32)), (.ref b247), (.ref b247), (.ref b232), (.ref b232)])
          refine own_caload H245 hx f257 ⟨by decide, by decide⟩ (v := (.int c0)) rfl rfl rfl (hb hby d_4_110) ?_
          show Go p e below _ T244 (mkF m 111 #[.val (.ref b1), .val (.int p1)] [(.int c0), (.int (0 : Int32)), (.ref b247), (.ref b247), (.ref b232), (.ref b232)])
          refine own_castore H245 hx V261 ⟨by decide, by decide⟩ 0 (by decide) (Nat.le_of_ble_eq_true rfl) fr254 rfl rfl (hb hby d_4_111) fun T262 h264 H263 W265 V266 => ?_
          have K267 : Keep h0 h264 [] := K256.wr W265 (Or.inr sz255)
          have f268 := f257.other W265 ne252
          have f269 := f258.wr W265
          have f270 := f259.other W265 (Or.inl ne253)
          have f271 := f260.other W265 (Or.inl ne253)
          have V273 : Arv Z h264 b247 kA250 .char (4 : Int32) [(.int (nar .char c0)), (.int (0 : Int32)), (.int (0 : Int32)), (.int (0 : Int32))] (.int (0 : Int32)) := V266
          show Go p e below _ T262 (mkF m 112 #[.val (.ref b1), .val (.int p1)] [(.ref b247), (.ref b232), (.ref b232)])
          refine Go.of (fun _ => XS.dup H263.here hx rfl (hb hby d_4_112) rfl rfl) ?_
          show Go p e below _ T262 (mkF m 113 #[.val (.ref b1), .val (.int p1)] [(.ref b247), (.ref b247), (.ref b232), (.ref b232)])
          refine Go.of (fun _ => XS.iconst H263.here hx rfl (hb hby d_4_113)) ?_
          show Go p e below _ T262 (mkF m 114 #[.val (.ref b1), .val (.int p1)] [(.int (1 : Int32)), (.ref b247), (.ref b247), (.ref b232), (.ref b232)])
          refine Go.of (fun _ => XS.aloadN H263.here hx rfl (hb hby d_4_114) rfl rfl) ?_
          show Go p e below _ T262 (mkF m 115 #[.val (.ref b1), .val (.int p1)] [(.ref b1), (.int (1 : Int32)), (.ref b247), (.ref b247), (.ref b232), (.ref b232)])
          refine Go.of (fun _ => XS.iconst H263.here hx rfl (hb hby d_4_115)) ?_
          show Go p e below _ T262 (mkF m 116 #[.val (.ref b1), .val (.int p1)] [(.int (1 : Int32)), (.ref b1), (.int (1 : Int32)), (.ref b247), (.ref b247), (.ref b232), (.ref b232)])
          refine own_caload H263 hx f268 ⟨by decide, by decide⟩ (v := (.int c1)) rfl rfl rfl (hb hby d_4_116) ?_
          show Go p e below _ T262 (mkF m 117 #[.val (.ref b1), .val (.int p1)] [(.int c1), (.int (1 : Int32)), (.ref b247), (.ref b247), (.ref b232), (.ref b232)])
          refine own_castore H263 hx V273 ⟨by decide, by decide⟩ 1 (by decide) (Nat.le_of_ble_eq_true rfl) fr254 rfl rfl (hb hby d_4_117) fun T274 h276 H275 W277 V278 => ?_
          have K279 : Keep h0 h276 [] := K267.wr W277 (Or.inr sz255)
          have f280 := f268.other W277 ne252
          have f281 := f269.wr W277
          have f282 := f270.other W277 (Or.inl ne253)
          have f283 := f271.other W277 (Or.inl ne253)
          have V285 : Arv Z h276 b247 kA250 .char (4 : Int32) [(.int (nar .char c0)), (.int (nar .char c1)), (.int (0 : Int32)), (.int (0 : Int32))] (.int (0 : Int32)) := V278
          show Go p e below _ T274 (mkF m 118 #[.val (.ref b1), .val (.int p1)] [(.ref b247), (.ref b232), (.ref b232)])
          refine Go.of (fun _ => XS.dup H275.here hx rfl (hb hby d_4_118) rfl rfl) ?_
          show Go p e below _ T274 (mkF m 119 #[.val (.ref b1), .val (.int p1)] [(.ref b247), (.ref b247), (.ref b232), (.ref b232)])
          refine Go.of (fun _ => XS.iconst H275.here hx rfl (hb hby d_4_119)) ?_
          show Go p e below _ T274 (mkF m 120 #[.val (.ref b1), .val (.int p1)] [(.int (2 : Int32)), (.ref b247), (.ref b247), (.ref b232), (.ref b232)])
          refine Go.of (fun _ => XS.aloadN H275.here hx rfl (hb hby d_4_120) rfl rfl) ?_
          show Go p e below _ T274 (mkF m 121 #[.val (.ref b1), .val (.int p1)] [(.ref b1), (.int (2 : Int32)), (.ref b247), (.ref b247), (.ref b232), (.ref b232)])
          refine Go.of (fun _ => XS.iconst H275.here hx rfl (hb hby d_4_121)) ?_
          show Go p e below _ T274 (mkF m 122 #[.val (.ref b1), .val (.int p1)] [(.int (2 : Int32)), (.ref b1), (.int (2 : Int32)), (.ref b247), (.ref b247), (.ref b232), (.ref b232)])
          refine own_caload H275 hx f280 ⟨by decide, by decide⟩ (v := (.int c2)) rfl rfl rfl (hb hby d_4_122) ?_
          show Go p e below _ T274 (mkF m 123 #[.val (.ref b1), .val (.int p1)] [(.int c2), (.int (2 : Int32)), (.ref b247), (.ref b247), (.ref b232), (.ref b232)])
          refine own_castore H275 hx V285 ⟨by decide, by decide⟩ 2 (by decide) (Nat.le_of_ble_eq_true rfl) fr254 rfl rfl (hb hby d_4_123) fun T286 h288 H287 W289 V290 => ?_
          have K291 : Keep h0 h288 [] := K279.wr W289 (Or.inr sz255)
          have f292 := f280.other W289 ne252
          have f293 := f281.wr W289
          have f294 := f282.other W289 (Or.inl ne253)
          have f295 := f283.other W289 (Or.inl ne253)
          have V297 : Arv Z h288 b247 kA250 .char (4 : Int32) [(.int (nar .char c0)), (.int (nar .char c1)), (.int (nar .char c2)), (.int (0 : Int32))] (.int (0 : Int32)) := V290
          show Go p e below _ T286 (mkF m 124 #[.val (.ref b1), .val (.int p1)] [(.ref b247), (.ref b232), (.ref b232)])
          refine Go.of (fun _ => XS.dup H287.here hx rfl (hb hby d_4_124) rfl rfl) ?_
          show Go p e below _ T286 (mkF m 125 #[.val (.ref b1), .val (.int p1)] [(.ref b247), (.ref b247), (.ref b232), (.ref b232)])
          refine Go.of (fun _ => XS.iconst H287.here hx rfl (hb hby d_4_125)) ?_
          show Go p e below _ T286 (mkF m 126 #[.val (.ref b1), .val (.int p1)] [(.int (3 : Int32)), (.ref b247), (.ref b247), (.ref b232), (.ref b232)])
          refine Go.of (fun _ => XS.aloadN H287.here hx rfl (hb hby d_4_126) rfl rfl) ?_
          show Go p e below _ T286 (mkF m 127 #[.val (.ref b1), .val (.int p1)] [(.ref b1), (.int (3 : Int32)), (.ref b247), (.ref b247), (.ref b232), (.ref b232)])
          refine Go.of (fun _ => XS.iconst H287.here hx rfl (hb hby d_4_127)) ?_
          show Go p e below _ T286 (mkF m 128 #[.val (.ref b1), .val (.int p1)] [(.int (3 : Int32)), (.ref b1), (.int (3 : Int32)), (.ref b247), (.ref b247), (.ref b232), (.ref b232)])
          refine own_caload H287 hx f292 ⟨by decide, by decide⟩ (v := (.int c3)) rfl rfl rfl (hb hby d_4_128) ?_
          show Go p e below _ T286 (mkF m 129 #[.val (.ref b1), .val (.int p1)] [(.int c3), (.int (3 : Int32)), (.ref b247), (.ref b247), (.ref b232), (.ref b232)])
          refine own_castore H287 hx V297 ⟨by decide, by decide⟩ 3 (by decide) (Nat.le_of_ble_eq_true rfl) fr254 rfl rfl (hb hby d_4_129) fun T298 h300 H299 W301 V302 => ?_
          have K303 : Keep h0 h300 [] := K291.wr W301 (Or.inr sz255)
          have f304 := f292.other W301 ne252
          have f305 := f293.wr W301
          have f306 := f294.other W301 (Or.inl ne253)
          have f307 := f295.other W301 (Or.inl ne253)
          have V309 : Arv Z h300 b247 kA250 .char (4 : Int32) [(.int (nar .char c0)), (.int (nar .char c1)), (.int (nar .char c2)), (.int (nar .char c3))] (.int (0 : Int32)) := V302
          show Go p e below _ T298 (mkF m 130 #[.val (.ref b1), .val (.int p1)] [(.ref b247), (.ref b232), (.ref b232)])
          have hV : Arv Z h300 b247 kA250 .char (4 : Int32) (([c0, c1, c2, c3] : List Int32).map Value.int) (.int (0 : Int32)) := by have := V309; rw [own_narc hc0, own_narc hc1, own_narc hc2, own_narc hc3] at this; exact this
          refine own_newS H299 hx hown (ow hw 12 rfl) (ow hw 13 rfl) (ow hw 14 rfl) (own_hws hw) (ow hw 10 rfl) f305 f306 f307 hV SC hzc (ln := 4) rfl rfl (by decide) (by decide) (allC hc0 (allC hc1 (allC hc2 (allC hc3 all0c)))) (by decide) (W := 1) (by decide) fr238 (List.mem_of_getElem? (i := 1) rfl) rfl (by rw [hml]; rfl) rfl (by show 2 * 0 + _ ≤ _; exact Nat.le_of_eq rfl) (hb hby d_4_130) (by decide) (by decide) fun T310 h312 H311 KK SS => ?_
          have K313 : Keep h0 h312 [] := K303.trans KK (allS (Or.inr sz239) all0)
          show Go p e below _ T310 (mkF m 133 #[.val (.ref b1), .val (.int p1)] [(.ref b232)])
          exact own_retA H311 hx hlk hret rfl rfl (hb hby d_4_133) ⟨b232, rfl, K313, sz239, by unfold own_tk; rw [if_neg hbr2, if_neg hbr43, if_neg hbr93, if_neg hbr155]; exact SS⟩ (by decide) (by decide)
set_option maxRecDepth 65536 in
set_option maxHeartbeats 40000000 in
theorem rm_cft (l : Launch) (Z : State) (a0 : Array Value) (hw : ∀ d ∈ tables_1, d.before a0 Z = true) (hE : EW Z a0 ELx) (p1 : Int32) (p2 : Int32) (p3 : Int32) (fm : Value) (h0 : Heap) (O0 : Ext Z.heap h0) (hfm : fm.isRef = true) (hb1 : ¬ p1 < (0 : Int32)) (hb2 : ¬ p2 < p1) (hb3 : ¬ p3 < p2) :
    Ct l Z ELx a0 true (⟨"jdk/internal/util/Preconditions", "checkFromToIndex", "(IIILjava/util/function/BiFunction;)I"⟩ : MethodName) jdk_41_method_12_code 4 (some .int) [] ({ frames := 0, cells := 0, slots := 0, locals := 0 } : Room) #[(.int p1), (.int p2), (.int p3), fm] h0 [] (fun v h => v = some (.int p1) ∧ h0 = h) := by
  refine own_enter (plainFor_of_name pn_3) hE O0 ?_
  intro p e s m below meth c s₁ hx hby hml hown hnm hret hlk H0
  refine Go.eq (ef_rm_cft m p1 p2 p3 fm hfm) ?_
  show Go p e below _ s₁ (mkF m 0 #[.val (.int p1), .val (.int p2), .val (.int p3), .val fm] [])
  refine Go.of (fun _ => XS.iloadN H0.here hx rfl (hb hby d_jdk_41_12_0) rfl) ?_
  show Go p e below _ s₁ (mkF m 1 #[.val (.int p1), .val (.int p2), .val (.int p3), .val fm] [(.int p1)])
  refine Go.of (fun _ => XS.ifNo H0.here hx rfl (hb hby d_jdk_41_12_1) rfl ((if0 _ _).trans (flt hb1).1)) ?_
  show Go p e below _ s₁ (mkF m 4 #[.val (.int p1), .val (.int p2), .val (.int p3), .val fm] [])
  refine Go.of (fun _ => XS.iloadN H0.here hx rfl (hb hby d_jdk_41_12_4) rfl) ?_
  show Go p e below _ s₁ (mkF m 5 #[.val (.int p1), .val (.int p2), .val (.int p3), .val fm] [(.int p1)])
  refine Go.of (fun _ => XS.iloadN H0.here hx rfl (hb hby d_jdk_41_12_5) rfl) ?_
  show Go p e below _ s₁ (mkF m 6 #[.val (.int p1), .val (.int p2), .val (.int p3), .val fm] [(.int p2), (.int p1)])
  refine Go.of (fun _ => XS.icmpNo H0.here hx rfl (hb hby d_jdk_41_12_6) rfl (flt hb2).2.2.1) ?_
  show Go p e below _ s₁ (mkF m 9 #[.val (.int p1), .val (.int p2), .val (.int p3), .val fm] [])
  refine Go.of (fun _ => XS.iloadN H0.here hx rfl (hb hby d_jdk_41_12_9) rfl) ?_
  show Go p e below _ s₁ (mkF m 10 #[.val (.int p1), .val (.int p2), .val (.int p3), .val fm] [(.int p2)])
  refine Go.of (fun _ => XS.iloadN H0.here hx rfl (hb hby d_jdk_41_12_10) rfl) ?_
  show Go p e below _ s₁ (mkF m 11 #[.val (.int p1), .val (.int p2), .val (.int p3), .val fm] [(.int p3), (.int p2)])
  refine Go.of (fun _ => XS.icmpYes H0.here hx rfl (pc0 := 11) (pc' := 22) rfl (hb hby d_jdk_41_12_11) rfl (flt hb3).2.2.2 (by decide) (by decide)) ?_
  show Go p e below _ s₁ (mkF m 22 #[.val (.int p1), .val (.int p2), .val (.int p3), .val fm] [])
  refine Go.of (fun _ => XS.iloadN H0.here hx rfl (hb hby d_jdk_41_12_22) rfl) ?_
  show Go p e below _ s₁ (mkF m 23 #[.val (.int p1), .val (.int p2), .val (.int p3), .val fm] [(.int p1)])
  exact own_retI H0 hx hlk hret (hb hby d_jdk_41_12_23) ⟨rfl, rfl⟩ (by decide) (by decide)
set_option maxRecDepth 65536 in
set_option maxHeartbeats 40000000 in
theorem rm_cbb (l : Launch) (Z : State) (a0 : Array Value) (hw : ∀ d ∈ tables_1, d.before a0 Z = true) (hE : EW Z a0 ELx) (p1 : Int32) (p2 : Int32) (p3 : Int32) (fm : Value) (h0 : Heap) (O0 : Ext Z.heap h0) (SF : Sta Z Z.heap "jdk/internal/util/Preconditions" "SIOOBE_FORMATTER" "Ljava/util/function/BiFunction;" fm) (hfm : fm.isRef = true) (hb1 : ¬ p1 < (0 : Int32)) (hb2 : ¬ p2 < p1) (hb3 : ¬ p3 < p2) :
    Ct l Z ELx a0 true (⟨"java/lang/String", "checkBoundsBeginEnd", "(III)V"⟩ : MethodName) jdk_42_method_158_code 3 none [] ({ frames := 1, cells := 0, slots := 0, locals := 15 } : Room) #[(.int p1), (.int p2), (.int p3)] h0 [] (fun v h => v = none ∧ h0 = h) := by
  refine own_enter (plainFor_of_name pn_0) hE O0 ?_
  intro p e s m below meth c s₁ hx hby hml hown hnm hret hlk H0
  refine Go.eq (ef_rm_cbb m p1 p2 p3) ?_
  show Go p e below _ s₁ (mkF m 0 #[.val (.int p1), .val (.int p2), .val (.int p3)] [])
  refine Go.of (fun _ => XS.iloadN H0.here hx rfl (hb hby d_jdk_42_158_0) rfl) ?_
  show Go p e below _ s₁ (mkF m 1 #[.val (.int p1), .val (.int p2), .val (.int p3)] [(.int p1)])
  refine Go.of (fun _ => XS.iloadN H0.here hx rfl (hb hby d_jdk_42_158_1) rfl) ?_
  show Go p e below _ s₁ (mkF m 2 #[.val (.int p1), .val (.int p2), .val (.int p3)] [(.int p2), (.int p1)])
  refine Go.of (fun _ => XS.iloadN H0.here hx rfl (hb hby d_jdk_42_158_2) rfl) ?_
  show Go p e below _ s₁ (mkF m 3 #[.val (.int p1), .val (.int p2), .val (.int p3)] [(.int p3), (.int p2), (.int p1)])
  refine own_getS H0 hx hown (host := "") (Or.inl (ow hw 57 rfl)) Via.refl SF rfl (hb hby d_jdk_42_158_3) fun T1 H2 => ?_
  show Go p e below _ T1 (mkF m 6 #[.val (.int p1), .val (.int p2), .val (.int p3)] [fm, (.int p3), (.int p2), (.int p1)])
  refine own_staticW H2 hx (y := (⟨"jdk/internal/util/Preconditions", "checkFromToIndex", "(IIILjava/util/function/BiFunction;)I"⟩ : MethodName)) hown (ow hw 59 rfl) (ow hw 60 rfl) (ow hw 58 rfl) (ow hw 61 rfl) (by decide) (W := 0) (rm_cft l Z a0 hw hE p1 p2 p3 fm h0 H2.old hfm hb1 hb2 hb3) (fun _ hq => nomatch hq) (by decide) (by decide) rfl (by rw [hml]; rfl) (argsL := [(.int p1), (.int p2), (.int p3), fm]) (rest := []) rfl (lenOf pd_2 rfl) rfl (by show 2 * 0 + _ ≤ _; exact Nat.le_of_eq rfl) (hb hby d_jdk_42_158_6) (by decide) (by decide) fun T3 h5 v7 H4 hs8 q6 => ?_
  obtain ⟨ve10, e9⟩ := q6
  subst e9
  subst ve10
  show Go p e below _ T3 (mkF m 9 #[.val (.int p1), .val (.int p2), .val (.int p3)] [(.int p1)])
  refine Go.of (fun _ => XS.pop H4.here hx rfl (hb hby d_jdk_42_158_9) rfl rfl) ?_
  show Go p e below _ T3 (mkF m 10 #[.val (.int p1), .val (.int p2), .val (.int p3)] [])
  exact own_ret H4 hx hlk hret (hb hby d_jdk_42_158_10) ⟨rfl, rfl⟩ (by decide) (by decide)
set_option maxRecDepth 65536 in
set_option maxHeartbeats 40000000 in
theorem rm_isl (l : Launch) (Z : State) (a0 : Array Value) (hw : ∀ d ∈ tables_1, d.before a0 Z = true) (hE : EW Z a0 ELx) (a1 : Addr) (zc : Int32) (h0 : Heap) (O0 : Ext Z.heap h0) (F1 : Fld Z h0 a1 "java/lang/String" "coder" "B" (.int 0)) (SC : Sta Z Z.heap "java/lang/String" "COMPACT_STRINGS" "Z" (.int zc)) (hzc : ¬ zc = 0) :
    Ct l Z ELx a0 true (⟨"java/lang/String", "isLatin1", "()Z"⟩ : MethodName) jdk_42_method_154_code 1 (some .boolean) [] ({ frames := 0, cells := 0, slots := 0, locals := 0 } : Room) #[(.ref a1)] h0 [] (fun v h => v = some (.int 1) ∧ h0 = h) := by
  refine own_enter (plainFor_of_name pn_0) hE O0 ?_
  intro p e s m below meth c s₁ hx hby hml hown hnm hret hlk H0
  refine Go.eq (ef_rm_isl m a1) ?_
  show Go p e below _ s₁ (mkF m 0 #[.val (.ref a1)] [])
  refine own_getS H0 hx hown (host := "") (Or.inl (ow hw 47 rfl)) Via.refl SC rfl (hb hby d_jdk_42_154_0) fun T1 H2 => ?_
  show Go p e below _ T1 (mkF m 3 #[.val (.ref a1)] [(.int zc)])
  refine Go.of (fun _ => XS.ifNo H2.here hx rfl (hb hby d_jdk_42_154_3) rfl ((if0 _ _).trans (feq hzc).1)) ?_
  show Go p e below _ T1 (mkF m 6 #[.val (.ref a1)] [])
  refine Go.of (fun _ => XS.aloadN H2.here hx rfl (hb hby d_jdk_42_154_6) rfl rfl) ?_
  show Go p e below _ T1 (mkF m 7 #[.val (.ref a1)] [(.ref a1)])
  refine own_getF H2 hx hown (host := "") (Or.inl (ow hw 29 rfl)) Via.refl F1 rfl rfl (hb hby d_jdk_42_154_7) fun T3 H4 => ?_
  show Go p e below _ T3 (mkF m 10 #[.val (.ref a1)] [(.int (0 : Int32))])
  refine Go.of (fun _ => XS.ifNo H4.here hx rfl (hb hby d_jdk_42_154_10) rfl ((if0 _ _).trans (teq (by decide : (0 : Int32) = (0 : Int32))).2)) ?_
  show Go p e below _ T3 (mkF m 13 #[.val (.ref a1)] [])
  refine Go.of (fun _ => XS.iconst H4.here hx rfl (hb hby d_jdk_42_154_13)) ?_
  show Go p e below _ T3 (mkF m 14 #[.val (.ref a1)] [(.int (1 : Int32))])
  refine Go.of (fun _ => XS.goto H4.here hx rfl (pc0 := 14) (pc' := 18) rfl (hb hby d_jdk_42_154_14) (by decide) (by decide)) ?_
  show Go p e below _ T3 (mkF m 18 #[.val (.ref a1)] [(.int (1 : Int32))])
  exact own_retN H4 hx hlk (t := .boolean) hret (by simp) (hb hby d_jdk_42_154_18) ⟨rfl, rfl⟩ (by decide) (by decide)
set_option maxRecDepth 65536 in
set_option maxHeartbeats 40000000 in
theorem rm_min (l : Launch) (Z : State) (a0 : Array Value) (hw : ∀ d ∈ tables_1, d.before a0 Z = true) (hE : EW Z a0 ELx) (p1 : Int32) (p2 : Int32) (h0 : Heap) (O0 : Ext Z.heap h0) (hm : ¬ p1 < p2) :
    Ct l Z ELx a0 true (⟨"java/lang/Math", "min", "(II)I"⟩ : MethodName) jdk_29_method_69_code 2 (some .int) [] ({ frames := 0, cells := 0, slots := 0, locals := 0 } : Room) #[(.int p1), (.int p2)] h0 [] (fun v h => v = some (.int p2) ∧ h0 = h) := by
  refine own_enter (Jvm.Free.JP.mathPlain rfl (by decide +kernel)) hE O0 ?_
  intro p e s m below meth c s₁ hx hby hml hown hnm hret hlk H0
  refine Go.eq (ef_rm_min m p1 p2) ?_
  show Go p e below _ s₁ (mkF m 0 #[.val (.int p1), .val (.int p2)] [])
  refine Go.of (fun _ => XS.iloadN H0.here hx rfl (hb hby d_jdk_29_69_0) rfl) ?_
  show Go p e below _ s₁ (mkF m 1 #[.val (.int p1), .val (.int p2)] [(.int p1)])
  refine Go.of (fun _ => XS.iloadN H0.here hx rfl (hb hby d_jdk_29_69_1) rfl) ?_
  show Go p e below _ s₁ (mkF m 2 #[.val (.int p1), .val (.int p2)] [(.int p2), (.int p1)])
  by_cases hbr1 : p2 < p1
  · skip
    refine Go.of (fun _ => XS.icmpYes H0.here hx rfl (pc0 := 2) (pc' := 9) rfl (hb hby d_jdk_29_69_2) rfl (tlt hbr1).2.2.1 (by decide) (by decide)) ?_
    show Go p e below _ s₁ (mkF m 9 #[.val (.int p1), .val (.int p2)] [])
    refine Go.of (fun _ => XS.iloadN H0.here hx rfl (hb hby d_jdk_29_69_9) rfl) ?_
    show Go p e below _ s₁ (mkF m 10 #[.val (.int p1), .val (.int p2)] [(.int p2)])
    exact own_retI H0 hx hlk hret (hb hby d_jdk_29_69_10) ⟨rfl, rfl⟩ (by decide) (by decide)
  · skip
    refine Go.of (fun _ => XS.icmpNo H0.here hx rfl (hb hby d_jdk_29_69_2) rfl (flt hbr1).2.2.1) ?_
    show Go p e below _ s₁ (mkF m 5 #[.val (.int p1), .val (.int p2)] [])
    refine Go.of (fun _ => XS.iloadN H0.here hx rfl (hb hby d_jdk_29_69_5) rfl) ?_
    show Go p e below _ s₁ (mkF m 6 #[.val (.int p1), .val (.int p2)] [(.int p1)])
    refine Go.of (fun _ => XS.goto H0.here hx rfl (pc0 := 6) (pc' := 10) rfl (hb hby d_jdk_29_69_6) (by decide) (by decide)) ?_
    show Go p e below _ s₁ (mkF m 10 #[.val (.int p1), .val (.int p2)] [(.int p1)])
    exact own_retI H0 hx hlk hret (hb hby d_jdk_29_69_10) ⟨by rw [own_le_eq hm hbr1], rfl⟩ (by decide) (by decide)
set_option maxRecDepth 65536 in
set_option maxHeartbeats 40000000 in
theorem rm_ckl (l : Launch) (Z : State) (a0 : Array Value) (hw : ∀ d ∈ tables_1, d.before a0 Z = true) (hE : EW Z a0 ELx) (p1 : Int32) (p2 : Int32) (h0 : Heap) (O0 : Ext Z.heap h0) (hm : ¬ p2 < p1) :
    Ct l Z ELx a0 true (⟨"java/util/Arrays", "checkLength", "(II)V"⟩ : MethodName) jdk_65_method_131_code 2 none [] ({ frames := 0, cells := 0, slots := 0, locals := 0 } : Room) #[(.int p1), (.int p2)] h0 [] (fun v h => v = none ∧ h0 = h) := by
  refine own_enter (plainFor_of_name pn_4) hE O0 ?_
  intro p e s m below meth c s₁ hx hby hml hown hnm hret hlk H0
  refine Go.eq (ef_rm_ckl m p1 p2) ?_
  show Go p e below _ s₁ (mkF m 0 #[.val (.int p1), .val (.int p2)] [])
  refine Go.of (fun _ => XS.iloadN H0.here hx rfl (hb hby d_jdk_65_131_0) rfl) ?_
  show Go p e below _ s₁ (mkF m 1 #[.val (.int p1), .val (.int p2)] [(.int p2)])
  refine Go.of (fun _ => XS.iloadN H0.here hx rfl (hb hby d_jdk_65_131_1) rfl) ?_
  show Go p e below _ s₁ (mkF m 2 #[.val (.int p1), .val (.int p2)] [(.int p1), (.int p2)])
  refine Go.of (fun _ => XS.icmpYes H0.here hx rfl (pc0 := 2) (pc' := 37) rfl (hb hby d_jdk_65_131_2) rfl (flt hm).2.1 (by decide) (by decide)) ?_
  show Go p e below _ s₁ (mkF m 37 #[.val (.int p1), .val (.int p2)] [])
  exact own_ret H0 hx hlk hret (hb hby d_jdk_65_131_37) ⟨rfl, rfl⟩ (by decide) (by decide)
set_option maxRecDepth 65536 in
set_option maxHeartbeats 40000000 in
theorem rm_crb (l : Launch) (Z : State) (a0 : Array Value) (hw : ∀ d ∈ tables_1, d.before a0 Z = true) (hE : EW Z a0 ELx) (b1 : Addr) (kb : ClassId) (zN : Nat) (fN : Nat) (lN : Nat) (vs : List Value) (h0 : Heap) (O0 : Ext Z.heap h0) (V1 : Arv Z h0 b1 kb .byte (Int32.ofNat zN) vs (.int 0)) (hN : fN + lN ≤ zN) (h4 : zN ≤ 4) :
    Ct l Z ELx a0 true (⟨"java/util/Arrays", "copyOfRangeByte", "([BII)[B"⟩ : MethodName) jdk_65_method_133_code 5 (some (.array .byte)) [] ({ frames := 1, cells := 1, slots := 4, locals := 80 } : Room) #[(.ref b1), (.int (Int32.ofNat fN)), (.int (Int32.ofNat (fN + lN)))] h0 [] (fun v h => ∃ r kr, v = some (.ref r) ∧ Keep h0 h [] ∧ h0.size ≤ r ∧ Z.heap.size ≤ r ∧ Arv Z h r kr .byte (Int32.ofNat lN) ((List.range lN).map fun i => vs.getD (fN + i) (.int 0)) (.int 0)) := by
  refine own_enter (plainFor_of_name pn_4) hE O0 ?_
  intro p e s m below meth c s₁ hx hby hml hown hnm hret hlk H0
  refine Go.eq (ef_rm_crb m b1 (Int32.ofNat fN) (Int32.ofNat (fN + lN))) ?_
  have K1 : Keep h0 h0 [] := Keep.refl _ _
  show Go p e below _ s₁ (mkF m 0 #[.val (.ref b1), .val (.int (Int32.ofNat fN)), .val (.int (Int32.ofNat (fN + lN))), .unset, .unset] [])
  refine Go.of (fun _ => XS.iloadN H0.here hx rfl (hb hby d_jdk_65_133_0) rfl) ?_
  show Go p e below _ s₁ (mkF m 1 #[.val (.ref b1), .val (.int (Int32.ofNat fN)), .val (.int (Int32.ofNat (fN + lN))), .unset, .unset] [(.int (Int32.ofNat fN))])
  refine Go.of (fun _ => XS.iloadN H0.here hx rfl (hb hby d_jdk_65_133_1) rfl) ?_
  show Go p e below _ s₁ (mkF m 2 #[.val (.ref b1), .val (.int (Int32.ofNat fN)), .val (.int (Int32.ofNat (fN + lN))), .unset, .unset] [(.int (Int32.ofNat (fN + lN))), (.int (Int32.ofNat fN))])
  refine own_staticW H0 hx (y := (⟨"java/util/Arrays", "checkLength", "(II)V"⟩ : MethodName)) hown (ow hw 107 rfl) (ow hw 108 rfl) (ow hw 102 rfl) (ow hw 109 rfl) (by decide) (W := 0) (rm_ckl l Z a0 hw hE (Int32.ofNat fN) (Int32.ofNat (fN + lN)) h0 H0.old (by rw [own_onlt (by omega) (by omega)]; omega)) (fun _ hq => nomatch hq) (by decide) (by decide) rfl (by rw [hml]; rfl) (argsL := [(.int (Int32.ofNat fN)), (.int (Int32.ofNat (fN + lN)))]) (rest := []) rfl (lenOf pd_3 rfl) rfl (by show 2 * 0 + _ ≤ _; exact Nat.le_of_eq rfl) (hb hby d_jdk_65_133_2) (by decide) (by decide) fun T2 h4 v6 H3 hs7 q5 => ?_
  obtain ⟨ve9, e8⟩ := q5
  subst e8
  subst ve9
  show Go p e below _ T2 (mkF m 5 #[.val (.ref b1), .val (.int (Int32.ofNat fN)), .val (.int (Int32.ofNat (fN + lN))), .unset, .unset] [])
  refine Go.of (fun _ => XS.iloadN H3.here hx rfl (hb hby d_jdk_65_133_5) rfl) ?_
  show Go p e below _ T2 (mkF m 6 #[.val (.ref b1), .val (.int (Int32.ofNat fN)), .val (.int (Int32.ofNat (fN + lN))), .unset, .unset] [(.int (Int32.ofNat (fN + lN)))])
  refine Go.of (fun _ => XS.iloadN H3.here hx rfl (hb hby d_jdk_65_133_6) rfl) ?_
  show Go p e below _ T2 (mkF m 7 #[.val (.ref b1), .val (.int (Int32.ofNat fN)), .val (.int (Int32.ofNat (fN + lN))), .unset, .unset] [(.int (Int32.ofNat fN)), (.int (Int32.ofNat (fN + lN)))])
  refine Go.of (fun _ => XS.isub H3.here hx rfl (hb hby d_jdk_65_133_7) rfl) ?_
  show Go p e below _ T2 (mkF m 8 #[.val (.ref b1), .val (.int (Int32.ofNat fN)), .val (.int (Int32.ofNat (fN + lN))), .unset, .unset] [(.int ((Int32.ofNat (fN + lN)) - (Int32.ofNat fN)))])
  rw [show ((Int32.ofNat (fN + lN)) - (Int32.ofNat fN)) = (Int32.ofNat lN) from by rw [own_onsub (by omega) (by omega)]; congr 1; omega]
  show Go p e below _ T2 (mkF m 8 #[.val (.ref b1), .val (.int (Int32.ofNat fN)), .val (.int (Int32.ofNat (fN + lN))), .unset, .unset] [(.int (Int32.ofNat lN))])
  refine Go.of (fun _ => XS.istoreN H3.here hx rfl (hb hby d_jdk_65_133_8) rfl (l' := #[.val (.ref b1), .val (.int (Int32.ofNat fN)), .val (.int (Int32.ofNat (fN + lN))), .val (.int (Int32.ofNat lN)), .unset]) rfl) ?_
  show Go p e below _ T2 (mkF m 9 #[.val (.ref b1), .val (.int (Int32.ofNat fN)), .val (.int (Int32.ofNat (fN + lN))), .val (.int (Int32.ofNat lN)), .unset] [])
  refine Go.of (fun _ => XS.iloadN H3.here hx rfl (hb hby d_jdk_65_133_9) rfl) ?_
  show Go p e below _ T2 (mkF m 10 #[.val (.ref b1), .val (.int (Int32.ofNat fN)), .val (.int (Int32.ofNat (fN + lN))), .val (.int (Int32.ofNat lN)), .unset] [(.int (Int32.ofNat lN))])
  refine own_newP H3 hx (ow hw 23 rfl) rfl (hb hby d_jdk_65_133_10) rfl (own_on0 (by omega)) (cap := 4) (by rw [own_onc (by omega)]; omega) (by decide) (by decide) (by decide) fun T10 h12 b13 kA16 g14 H11 E15 V17 => ?_
  have ne18 : b1 ≠ b13 := by rw [g14]; exact Nat.ne_of_lt V1.lt
  have fr19 : Z.heap.size ≤ b13 := by rw [g14]; exact H3.old.1
  have sz20 : h0.size ≤ b13 := by rw [g14]; exact K1.1
  have K21 : Keep h0 h12 [] := K1.ext E15
  have f22 := V1.ext E15
  have V23 : Arv Z h12 b13 kA16 .byte (Int32.ofNat lN) [] (.int (0 : Int32)) := V17
  show Go p e below _ T10 (mkF m 12 #[.val (.ref b1), .val (.int (Int32.ofNat fN)), .val (.int (Int32.ofNat (fN + lN))), .val (.int (Int32.ofNat lN)), .unset] [(.ref b13)])
  refine Go.of (fun _ => XS.astore H11.here hx rfl (hb hby d_jdk_65_133_12) rfl rfl (l' := #[.val (.ref b1), .val (.int (Int32.ofNat fN)), .val (.int (Int32.ofNat (fN + lN))), .val (.int (Int32.ofNat lN)), .val (.ref b13)]) rfl) ?_
  show Go p e below _ T10 (mkF m 14 #[.val (.ref b1), .val (.int (Int32.ofNat fN)), .val (.int (Int32.ofNat (fN + lN))), .val (.int (Int32.ofNat lN)), .val (.ref b13)] [])
  refine Go.of (fun _ => XS.aloadN H11.here hx rfl (hb hby d_jdk_65_133_14) rfl rfl) ?_
  show Go p e below _ T10 (mkF m 15 #[.val (.ref b1), .val (.int (Int32.ofNat fN)), .val (.int (Int32.ofNat (fN + lN))), .val (.int (Int32.ofNat lN)), .val (.ref b13)] [(.ref b1)])
  refine Go.of (fun _ => XS.iloadN H11.here hx rfl (hb hby d_jdk_65_133_15) rfl) ?_
  show Go p e below _ T10 (mkF m 16 #[.val (.ref b1), .val (.int (Int32.ofNat fN)), .val (.int (Int32.ofNat (fN + lN))), .val (.int (Int32.ofNat lN)), .val (.ref b13)] [(.int (Int32.ofNat fN)), (.ref b1)])
  refine Go.of (fun _ => XS.aload H11.here hx rfl (hb hby d_jdk_65_133_16) rfl rfl) ?_
  show Go p e below _ T10 (mkF m 18 #[.val (.ref b1), .val (.int (Int32.ofNat fN)), .val (.int (Int32.ofNat (fN + lN))), .val (.int (Int32.ofNat lN)), .val (.ref b13)] [(.ref b13), (.int (Int32.ofNat fN)), (.ref b1)])
  refine Go.of (fun _ => XS.iconst H11.here hx rfl (hb hby d_jdk_65_133_18)) ?_
  show Go p e below _ T10 (mkF m 19 #[.val (.ref b1), .val (.int (Int32.ofNat fN)), .val (.int (Int32.ofNat (fN + lN))), .val (.int (Int32.ofNat lN)), .val (.ref b13)] [(.int (0 : Int32)), (.ref b13), (.int (Int32.ofNat fN)), (.ref b1)])
  refine Go.of (fun _ => XS.aloadN H11.here hx rfl (hb hby d_jdk_65_133_19) rfl rfl) ?_
  show Go p e below _ T10 (mkF m 20 #[.val (.ref b1), .val (.int (Int32.ofNat fN)), .val (.int (Int32.ofNat (fN + lN))), .val (.int (Int32.ofNat lN)), .val (.ref b13)] [(.ref b1), (.int (0 : Int32)), (.ref b13), (.int (Int32.ofNat fN)), (.ref b1)])
  refine own_len H11 hx f22 rfl rfl (hb hby d_jdk_65_133_20) ?_
  show Go p e below _ T10 (mkF m 21 #[.val (.ref b1), .val (.int (Int32.ofNat fN)), .val (.int (Int32.ofNat (fN + lN))), .val (.int (Int32.ofNat lN)), .val (.ref b13)] [(.int (Int32.ofNat zN)), (.int (0 : Int32)), (.ref b13), (.int (Int32.ofNat fN)), (.ref b1)])
  refine Go.of (fun _ => XS.iloadN H11.here hx rfl (hb hby d_jdk_65_133_21) rfl) ?_
  show Go p e below _ T10 (mkF m 22 #[.val (.ref b1), .val (.int (Int32.ofNat fN)), .val (.int (Int32.ofNat (fN + lN))), .val (.int (Int32.ofNat lN)), .val (.ref b13)] [(.int (Int32.ofNat fN)), (.int (Int32.ofNat zN)), (.int (0 : Int32)), (.ref b13), (.int (Int32.ofNat fN)), (.ref b1)])
  refine Go.of (fun _ => XS.isub H11.here hx rfl (hb hby d_jdk_65_133_22) rfl) ?_
  show Go p e below _ T10 (mkF m 23 #[.val (.ref b1), .val (.int (Int32.ofNat fN)), .val (.int (Int32.ofNat (fN + lN))), .val (.int (Int32.ofNat lN)), .val (.ref b13)] [(.int ((Int32.ofNat zN) - (Int32.ofNat fN))), (.int (0 : Int32)), (.ref b13), (.int (Int32.ofNat fN)), (.ref b1)])
  refine Go.of (fun _ => XS.iloadN H11.here hx rfl (hb hby d_jdk_65_133_23) rfl) ?_
  show Go p e below _ T10 (mkF m 24 #[.val (.ref b1), .val (.int (Int32.ofNat fN)), .val (.int (Int32.ofNat (fN + lN))), .val (.int (Int32.ofNat lN)), .val (.ref b13)] [(.int (Int32.ofNat lN)), (.int ((Int32.ofNat zN) - (Int32.ofNat fN))), (.int (0 : Int32)), (.ref b13), (.int (Int32.ofNat fN)), (.ref b1)])
  have hmn : ¬ ((Int32.ofNat zN) - (Int32.ofNat fN)) < (Int32.ofNat lN) := by rw [own_onsub (by omega) (by omega), own_onlt (by omega) (by omega)]; omega
  refine own_staticW H11 hx (y := (⟨"java/lang/Math", "min", "(II)I"⟩ : MethodName)) hown (ow hw 110 rfl) (ow hw 111 rfl) (ow hw 112 rfl) (ow hw 113 rfl) (by decide) (W := 4) (rm_min l Z a0 hw hE ((Int32.ofNat zN) - (Int32.ofNat fN)) (Int32.ofNat lN) h12 H11.old hmn) (fun _ hq => nomatch hq) (by decide) (by decide) rfl (by rw [hml]; rfl) (argsL := [(.int ((Int32.ofNat zN) - (Int32.ofNat fN))), (.int (Int32.ofNat lN))]) (rest := [(.int (0 : Int32)), (.ref b13), (.int (Int32.ofNat fN)), (.ref b1)]) rfl (lenOf pd_4 rfl) rfl (by show 2 * 0 + _ ≤ _; exact Nat.le_of_eq rfl) (hb hby d_jdk_65_133_24) (by decide) (by decide) fun T24 h26 v28 H25 hs29 q27 => ?_
  obtain ⟨ve31, e30⟩ := q27
  subst e30
  subst ve31
  show Go p e below _ T24 (mkF m 27 #[.val (.ref b1), .val (.int (Int32.ofNat fN)), .val (.int (Int32.ofNat (fN + lN))), .val (.int (Int32.ofNat lN)), .val (.ref b13)] [(.int (Int32.ofNat lN)), (.int (0 : Int32)), (.ref b13), (.int (Int32.ofNat fN)), (.ref b1)])
  have VP : Arv Z h12 b13 kA16 .byte (Int32.ofNat lN) (List.replicate lN (.int (0 : Int32))) (.int (0 : Int32)) := V23.pad (by simpa using pad_rep [] (.int (0 : Int32)) lN)
  refine own_cp H25 hx hown (ow hw 114 rfl) (ow hw 117 rfl) (ow hw 115 rfl) (ow hw 116 rfl) f22 VP (Or.inl ⟨rfl, rfl⟩) (own_on0 (by omega)) (by decide) (own_on0 (by omega)) (by rw [own_onc (by omega), own_onc (by omega), own_onc (by omega)]; omega) (by rw [own_onc (by omega)]; exact Nat.le_of_eq (Nat.zero_add _)) rfl (by rw [own_onc (by omega)]; simp) fr19 (own_mem (List.mem_of_getElem? (i := 0) rfl)) rfl (by rw [hml]; rfl) rfl (hb hby d_jdk_65_133_27) (by decide) (W := 0) (by show 2 * 0 + _ ≤ _; exact Nat.le_of_eq rfl) (by decide) fun T32 h34 H33 KC VC => ?_
  rw [own_onc (by omega), own_onc (by omega)] at VC
  have K35 : Keep h0 h34 [] := K21.trans KC (allS (Or.inr sz20) all0)
  have VD : Arv Z h34 b13 kA16 .byte (Int32.ofNat lN) ((List.range lN).map fun i => vs.getD (fN + i) (.int 0)) (.int 0) := by simpa [show ((0 : Int32).toNatClampNeg) = 0 from by decide] using VC
  show Go p e below _ T32 (mkF m 30 #[.val (.ref b1), .val (.int (Int32.ofNat fN)), .val (.int (Int32.ofNat (fN + lN))), .val (.int (Int32.ofNat lN)), .val (.ref b13)] [])
  refine Go.of (fun _ => XS.aload H33.here hx rfl (hb hby d_jdk_65_133_30) rfl rfl) ?_
  show Go p e below _ T32 (mkF m 32 #[.val (.ref b1), .val (.int (Int32.ofNat fN)), .val (.int (Int32.ofNat (fN + lN))), .val (.int (Int32.ofNat lN)), .val (.ref b13)] [(.ref b13)])
  exact own_retA H33 hx hlk hret rfl rfl (hb hby d_jdk_65_133_32) ⟨b13, _, rfl, K35, sz20, fr19, VD⟩ (by decide) (by decide)
set_option maxRecDepth 65536 in
set_option maxHeartbeats 40000000 in
theorem rm_cor (l : Launch) (Z : State) (a0 : Array Value) (hw : ∀ d ∈ tables_1, d.before a0 Z = true) (hE : EW Z a0 ELx) (b1 : Addr) (kb : ClassId) (zN : Nat) (fN : Nat) (lN : Nat) (vs : List Value) (h0 : Heap) (O0 : Ext Z.heap h0) (V1 : Arv Z h0 b1 kb .byte (Int32.ofNat zN) vs (.int 0)) (hN : fN + lN ≤ zN) (h4 : zN ≤ 4) (hNE : ¬ (fN = 0 ∧ fN + lN = zN)) :
    Ct l Z ELx a0 true (⟨"java/util/Arrays", "copyOfRange", "([BII)[B"⟩ : MethodName) jdk_65_method_132_code 3 (some (.array .byte)) [] ({ frames := 2, cells := 1, slots := 4, locals := 96 } : Room) #[(.ref b1), (.int (Int32.ofNat fN)), (.int (Int32.ofNat (fN + lN)))] h0 [] (fun v h => ∃ r kr, v = some (.ref r) ∧ Keep h0 h [] ∧ h0.size ≤ r ∧ Z.heap.size ≤ r ∧ Arv Z h r kr .byte (Int32.ofNat lN) ((List.range lN).map fun i => vs.getD (fN + i) (.int 0)) (.int 0)) := by
  refine own_enter (plainFor_of_name pn_4) hE O0 ?_
  intro p e s m below meth c s₁ hx hby hml hown hnm hret hlk H0
  refine Go.eq (ef_rm_cor m b1 (Int32.ofNat fN) (Int32.ofNat (fN + lN))) ?_
  show Go p e below _ s₁ (mkF m 0 #[.val (.ref b1), .val (.int (Int32.ofNat fN)), .val (.int (Int32.ofNat (fN + lN)))] [])
  refine Go.of (fun _ => XS.iloadN H0.here hx rfl (hb hby d_jdk_65_132_0) rfl) ?_
  show Go p e below _ s₁ (mkF m 1 #[.val (.ref b1), .val (.int (Int32.ofNat fN)), .val (.int (Int32.ofNat (fN + lN)))] [(.int (Int32.ofNat fN))])
  by_cases hbr1 : (Int32.ofNat fN) = (0 : Int32)
  · skip
    refine Go.of (fun _ => XS.ifNo H0.here hx rfl (hb hby d_jdk_65_132_1) rfl ((if0 _ _).trans (teq hbr1).2)) ?_
    show Go p e below _ s₁ (mkF m 4 #[.val (.ref b1), .val (.int (Int32.ofNat fN)), .val (.int (Int32.ofNat (fN + lN)))] [])
    refine Go.of (fun _ => XS.iloadN H0.here hx rfl (hb hby d_jdk_65_132_4) rfl) ?_
    show Go p e below _ s₁ (mkF m 5 #[.val (.ref b1), .val (.int (Int32.ofNat fN)), .val (.int (Int32.ofNat (fN + lN)))] [(.int (Int32.ofNat (fN + lN)))])
    refine Go.of (fun _ => XS.aloadN H0.here hx rfl (hb hby d_jdk_65_132_5) rfl rfl) ?_
    show Go p e below _ s₁ (mkF m 6 #[.val (.ref b1), .val (.int (Int32.ofNat fN)), .val (.int (Int32.ofNat (fN + lN)))] [(.ref b1), (.int (Int32.ofNat (fN + lN)))])
    refine own_len H0 hx V1 rfl rfl (hb hby d_jdk_65_132_6) ?_
    show Go p e below _ s₁ (mkF m 7 #[.val (.ref b1), .val (.int (Int32.ofNat fN)), .val (.int (Int32.ofNat (fN + lN)))] [(.int (Int32.ofNat zN)), (.int (Int32.ofNat (fN + lN)))])
    refine Go.of (fun _ => XS.icmpNo H0.here hx rfl (hb hby d_jdk_65_132_7) rfl (feq (fun q => hNE ⟨(own_onz (by omega)).mp hbr1, (own_oneq (by omega) (by omega)).mp q⟩)).1) ?_
    show Go p e below _ s₁ (mkF m 10 #[.val (.ref b1), .val (.int (Int32.ofNat fN)), .val (.int (Int32.ofNat (fN + lN)))] [])
    refine Go.of (fun _ => XS.aloadN H0.here hx rfl (hb hby d_jdk_65_132_10) rfl rfl) ?_
    show Go p e below _ s₁ (mkF m 11 #[.val (.ref b1), .val (.int (Int32.ofNat fN)), .val (.int (Int32.ofNat (fN + lN)))] [(.ref b1)])
    refine Go.of (fun _ => XS.iloadN H0.here hx rfl (hb hby d_jdk_65_132_11) rfl) ?_
    show Go p e below _ s₁ (mkF m 12 #[.val (.ref b1), .val (.int (Int32.ofNat fN)), .val (.int (Int32.ofNat (fN + lN)))] [(.int (Int32.ofNat fN)), (.ref b1)])
    refine Go.of (fun _ => XS.iloadN H0.here hx rfl (hb hby d_jdk_65_132_12) rfl) ?_
    show Go p e below _ s₁ (mkF m 13 #[.val (.ref b1), .val (.int (Int32.ofNat fN)), .val (.int (Int32.ofNat (fN + lN)))] [(.int (Int32.ofNat (fN + lN))), (.int (Int32.ofNat fN)), (.ref b1)])
    refine own_staticW H0 hx (y := (⟨"java/util/Arrays", "copyOfRangeByte", "([BII)[B"⟩ : MethodName)) hown (ow hw 104 rfl) (ow hw 105 rfl) (ow hw 102 rfl) (ow hw 106 rfl) (by decide) (W := 0) (rm_crb l Z a0 hw hE b1 kb zN fN lN vs h0 H0.old V1 hN h4) (fun _ hq => nomatch hq) (by decide) (by decide) rfl (by rw [hml]; rfl) (argsL := [(.ref b1), (.int (Int32.ofNat fN)), (.int (Int32.ofNat (fN + lN)))]) (rest := []) rfl (lenOf pd_5 rfl) rfl (by show 2 * 0 + _ ≤ _; exact Nat.le_of_eq rfl) (hb hby d_jdk_65_132_13) (by decide) (by decide) fun T2 h4 v6 H3 hs7 q5 => ?_
    obtain ⟨r1, kr1, rfl, KK⟩ := q5
    show Go p e below _ T2 (mkF m 16 #[.val (.ref b1), .val (.int (Int32.ofNat fN)), .val (.int (Int32.ofNat (fN + lN)))] [(.ref r1)])
    exact own_retA H3 hx hlk hret rfl rfl (hb hby d_jdk_65_132_16) ⟨r1, kr1, rfl, KK⟩ (by decide) (by decide)
  · skip
    refine Go.of (fun _ => XS.ifYes H0.here hx rfl (pc0 := 1) (pc' := 10) rfl (hb hby d_jdk_65_132_1) rfl ((if0 _ _).trans (feq hbr1).2) (by decide) (by decide)) ?_
    show Go p e below _ s₁ (mkF m 10 #[.val (.ref b1), .val (.int (Int32.ofNat fN)), .val (.int (Int32.ofNat (fN + lN)))] [])
    refine Go.of (fun _ => XS.aloadN H0.here hx rfl (hb hby d_jdk_65_132_10) rfl rfl) ?_
    show Go p e below _ s₁ (mkF m 11 #[.val (.ref b1), .val (.int (Int32.ofNat fN)), .val (.int (Int32.ofNat (fN + lN)))] [(.ref b1)])
    refine Go.of (fun _ => XS.iloadN H0.here hx rfl (hb hby d_jdk_65_132_11) rfl) ?_
    show Go p e below _ s₁ (mkF m 12 #[.val (.ref b1), .val (.int (Int32.ofNat fN)), .val (.int (Int32.ofNat (fN + lN)))] [(.int (Int32.ofNat fN)), (.ref b1)])
    refine Go.of (fun _ => XS.iloadN H0.here hx rfl (hb hby d_jdk_65_132_12) rfl) ?_
    show Go p e below _ s₁ (mkF m 13 #[.val (.ref b1), .val (.int (Int32.ofNat fN)), .val (.int (Int32.ofNat (fN + lN)))] [(.int (Int32.ofNat (fN + lN))), (.int (Int32.ofNat fN)), (.ref b1)])
    refine own_staticW H0 hx (y := (⟨"java/util/Arrays", "copyOfRangeByte", "([BII)[B"⟩ : MethodName)) hown (ow hw 104 rfl) (ow hw 105 rfl) (ow hw 102 rfl) (ow hw 106 rfl) (by decide) (W := 0) (rm_crb l Z a0 hw hE b1 kb zN fN lN vs h0 H0.old V1 hN h4) (fun _ hq => nomatch hq) (by decide) (by decide) rfl (by rw [hml]; rfl) (argsL := [(.ref b1), (.int (Int32.ofNat fN)), (.int (Int32.ofNat (fN + lN)))]) (rest := []) rfl (lenOf pd_5 rfl) rfl (by show 2 * 0 + _ ≤ _; exact Nat.le_of_eq rfl) (hb hby d_jdk_65_132_13) (by decide) (by decide) fun T8 h10 v12 H9 hs13 q11 => ?_
    obtain ⟨r1, kr1, rfl, KK⟩ := q11
    show Go p e below _ T8 (mkF m 16 #[.val (.ref b1), .val (.int (Int32.ofNat fN)), .val (.int (Int32.ofNat (fN + lN)))] [(.ref r1)])
    exact own_retA H9 hx hlk hret rfl rfl (hb hby d_jdk_65_132_16) ⟨r1, kr1, rfl, KK⟩ (by decide) (by decide)
set_option maxRecDepth 65536 in
set_option maxHeartbeats 40000000 in
theorem rm_sbb (l : Launch) (Z : State) (a0 : Array Value) (hw : ∀ d ∈ tables_1, d.before a0 Z = true) (hE : EW Z a0 ELx) (a1 : Addr) (b1 : Addr) (h0 : Heap) (O0 : Ext Z.heap h0) (E1 : Exa Z h0 a1 "java/lang/String") (F1 : Fld Z h0 a1 "java/lang/String" "value" "[B" .null) (F2 : Fld Z h0 a1 "java/lang/String" "coder" "B" (.int 0)) (g1 : Z.heap.size ≤ a1) :
    Ct l Z ELx a0 true (⟨"java/lang/String", "<init>", "([BB)V"⟩ : MethodName) jdk_42_method_151_code 3 none [] ({ frames := 1, cells := 0, slots := 0, locals := 12 } : Room) #[(.ref a1), (.ref b1), (.int (0 : Int32))] h0 [a1] (fun v h => v = none ∧ Keep h0 h [a1] ∧ Exa Z h a1 "java/lang/String" ∧ Fld Z h a1 "java/lang/String" "coder" "B" (.int 0) ∧ Fld Z h a1 "java/lang/String" "value" "[B" (.ref b1)) := by
  refine own_enter (plainFor_of_name pn_0) hE O0 ?_
  intro p e s m below meth c s₁ hx hby hml hown hnm hret hlk H0
  refine Go.eq (ef_rm_sbb m a1 b1 (0 : Int32)) ?_
  have K1 : Keep h0 h0 [a1] := Keep.refl _ _
  have hst := own_hst hw
  show Go p e below _ s₁ (mkF m 0 #[.val (.ref a1), .val (.ref b1), .val (.int (0 : Int32))] [])
  refine Go.of (fun _ => XS.aloadN H0.here hx rfl (hb hby d_jdk_42_151_0) rfl rfl) ?_
  show Go p e below _ s₁ (mkF m 1 #[.val (.ref a1), .val (.ref b1), .val (.int (0 : Int32))] [(.ref a1)])
  refine own_initO H0 hx hown (ow hw 19 rfl) (ow hw 20 rfl) (ow hw 21 rfl) rfl (by rw [hml]; rfl) rfl (hb hby d_jdk_42_151_1) (by decide) (W := 0) (by show 2 * 0 + _ ≤ _; exact Nat.le_of_eq rfl) (by decide) fun T2 H3 => ?_
  show Go p e below _ T2 (mkF m 4 #[.val (.ref a1), .val (.ref b1), .val (.int (0 : Int32))] [])
  refine Go.of (fun _ => XS.aloadN H3.here hx rfl (hb hby d_jdk_42_151_4) rfl rfl) ?_
  show Go p e below _ T2 (mkF m 5 #[.val (.ref a1), .val (.ref b1), .val (.int (0 : Int32))] [(.ref a1)])
  refine Go.of (fun _ => XS.aloadN H3.here hx rfl (hb hby d_jdk_42_151_5) rfl rfl) ?_
  show Go p e below _ T2 (mkF m 6 #[.val (.ref a1), .val (.ref b1), .val (.int (0 : Int32))] [(.ref b1), (.ref a1)])
  refine own_putF H3 hx hown (host := "") (Or.inl (ow hw 28 rfl)) Via.refl F1 E1 (Or.inr ⟨(ow hw 24 rfl), rfl, hnm⟩) (ow hw 10 rfl) (ty := (.array .byte)) (by decide) rfl rfl g1 (own_mem (List.mem_of_getElem? (i := 0) rfl)) rfl rfl (hb hby d_jdk_42_151_6) fun T4 h6 H5 W7 => ?_
  have K8 : Keep h0 h6 [a1] := K1.wr W7 (Or.inl (List.mem_of_getElem? (i := 0) rfl))
  have f9 := E1.wr W7
  have f10 := F1.same W7
  have f11 := F2.other W7 (Or.inr (slot_ne (Or.inr (ow hw 25 rfl)) (Or.inr (ow hw 24 rfl)) (by decide) (t := .byte) (t' := (.array .byte)) (by decide) (by decide)))
  show Go p e below _ T4 (mkF m 9 #[.val (.ref a1), .val (.ref b1), .val (.int (0 : Int32))] [])
  refine Go.of (fun _ => XS.aloadN H5.here hx rfl (hb hby d_jdk_42_151_9) rfl rfl) ?_
  show Go p e below _ T4 (mkF m 10 #[.val (.ref a1), .val (.ref b1), .val (.int (0 : Int32))] [(.ref a1)])
  refine Go.of (fun _ => XS.iloadN H5.here hx rfl (hb hby d_jdk_42_151_10) rfl) ?_
  show Go p e below _ T4 (mkF m 11 #[.val (.ref a1), .val (.ref b1), .val (.int (0 : Int32))] [(.int (0 : Int32)), (.ref a1)])
  refine own_putFN H5 hx hown (ow hw 29 rfl) Via.refl f11 f9 (Or.inr ⟨(ow hw 25 rfl), rfl, hnm⟩) (ow hw 10 rfl) (ty := .byte) (v' := .int (nar .byte (0 : Int32))) (by decide) rfl (fits_nar_byte _) g1 (own_mem (List.mem_of_getElem? (i := 0) rfl)) rfl rfl (hb hby d_jdk_42_151_11) fun T12 h14 H13 W15 => ?_
  have K16 : Keep h0 h14 [a1] := K8.wr W15 (Or.inl (List.mem_of_getElem? (i := 0) rfl))
  have f17 := f9.wr W15
  have f18 := f10.other W15 (Or.inr (slot_ne (Or.inr (ow hw 24 rfl)) (Or.inr (ow hw 25 rfl)) (by decide) (t := (.array .byte)) (t' := .byte) (by decide) (by decide)))
  have f19 := f11.same W15
  show Go p e below _ T12 (mkF m 14 #[.val (.ref a1), .val (.ref b1), .val (.int (0 : Int32))] [])
  exact own_ret H13 hx hlk hret (hb hby d_jdk_42_151_14) ⟨rfl, K16, f17, f19, f18⟩ (by decide) (by decide)
set_option maxRecDepth 65536 in
set_option maxHeartbeats 40000000 in
theorem rm_ns (l : Launch) (Z : State) (a0 : Array Value) (hw : ∀ d ∈ tables_1, d.before a0 Z = true) (hE : EW Z a0 ELx) (b1 : Addr) (kb : ClassId) (zN : Nat) (fN : Nat) (lN : Nat) (cs : List Int32) (h0 : Heap) (O0 : Ext Z.heap h0) (V1 : Arv Z h0 b1 kb .byte (Int32.ofNat zN) (cs.map fun c => Value.int (StrChars.lo8 c)) (.int 0)) (hz : cs.length = zN) (hN : fN + lN ≤ zN) (h4 : zN ≤ 4) (hNE : ¬ (fN = 0 ∧ fN + lN = zN)) (hp : ∀ c ∈ cs, ¬ c < 0 ∧ ¬ (255 : Int32) < c) :
    Ct l Z ELx a0 true (⟨"java/lang/StringLatin1", "newString", "([BII)Ljava/lang/String;"⟩ : MethodName) jdk_43_method_47_code 3 (some (.object "java/lang/String")) [] ({ frames := 3, cells := 4, slots := 12, locals := 120 } : Room) #[(.ref b1), (.int (Int32.ofNat fN)), (.int (Int32.ofNat lN))] h0 [] (fun v h => ∃ r, v = some (.ref r) ∧ Keep h0 h [] ∧ own_str Z h r ((cs.drop fN).take lN)) := by
  refine own_enter (plainFor_of_name pn_5) hE O0 ?_
  intro p e s m below meth c s₁ hx hby hml hown hnm hret hlk H0
  refine Go.eq (ef_rm_ns m b1 (Int32.ofNat fN) (Int32.ofNat lN)) ?_
  have K1 : Keep h0 h0 [] := Keep.refl _ _
  have hst := own_hst hw
  show Go p e below _ s₁ (mkF m 0 #[.val (.ref b1), .val (.int (Int32.ofNat fN)), .val (.int (Int32.ofNat lN))] [])
  refine Go.of (fun _ => XS.iloadN H0.here hx rfl (hb hby d_jdk_43_47_0) rfl) ?_
  show Go p e below _ s₁ (mkF m 1 #[.val (.ref b1), .val (.int (Int32.ofNat fN)), .val (.int (Int32.ofNat lN))] [(.int (Int32.ofNat lN))])
  by_cases hbr2 : (Int32.ofNat lN) = (0 : Int32)
  · skip
    refine Go.of (fun _ => XS.ifNo H0.here hx rfl (hb hby d_jdk_43_47_1) rfl ((if0 _ _).trans (teq hbr2).2)) ?_
    show Go p e below _ s₁ (mkF m 4 #[.val (.ref b1), .val (.int (Int32.ofNat fN)), .val (.int (Int32.ofNat lN))] [])
    refine own_ldcS H0 hx hown (ow hw 122 rfl) hst (by decide) (vs := []) (z := (0 : Int32)) ⟨by decide, by decide⟩ (by decide) (by decide) rfl (hb hby d_jdk_43_47_4) (nn := 0) (by decide) (by decide) (by decide) (by decide) fun T3 h5 a7 b8 kb9 H4 E6 f10 f11 f12 V13 ne14 => ?_
    have K15 : Keep h0 h5 [] := K1.ext E6
    have f16 := V1.ext E6
    show Go p e below _ T3 (mkF m 6 #[.val (.ref b1), .val (.int (Int32.ofNat fN)), .val (.int (Int32.ofNat lN))] [(.ref a7)])
    exact own_retA H4 hx hlk hret rfl rfl (hb hby d_jdk_43_47_6) ⟨a7, rfl, K15, by rw [show lN = 0 from (own_onz (by omega)).mp hbr2]; exact own_str.empty f10 f11 f12 V13⟩ (by decide) (by decide)
  · skip
    refine Go.of (fun _ => XS.ifYes H0.here hx rfl (pc0 := 1) (pc' := 7) rfl (hb hby d_jdk_43_47_1) rfl ((if0 _ _).trans (feq hbr2).2) (by decide) (by decide)) ?_
    show Go p e below _ s₁ (mkF m 7 #[.val (.ref b1), .val (.int (Int32.ofNat fN)), .val (.int (Int32.ofNat lN))] [])
    refine own_new H0 hx hown (ow hw 99 rfl) (ow hw 10 rfl) (ow hw 11 rfl) rfl (hb hby d_jdk_43_47_7) (by decide) (by decide) fun T17 h19 b20 g21 H18 E22 A23 D24 => ?_
    have ne25 : b1 ≠ b20 := by rw [g21]; exact Nat.ne_of_lt V1.lt
    have fr26 : Z.heap.size ≤ b20 := by rw [g21]; exact H0.old.1
    have sz27 : h0.size ≤ b20 := by rw [g21]; exact K1.1
    have K28 : Keep h0 h19 [] := K1.ext E22
    have f29 := V1.ext E22
    have f30 : Fld Z h19 b20 "java/lang/String" "value" "[B" .null := D24 (Or.inr (ow hw 24 rfl)) (ty := (.array .byte)) (by decide)
    have f31 : Fld Z h19 b20 "java/lang/String" "coder" "B" (.int (0 : Int32)) := D24 (Or.inr (ow hw 25 rfl)) (ty := .byte) (by decide)
    show Go p e below _ T17 (mkF m 10 #[.val (.ref b1), .val (.int (Int32.ofNat fN)), .val (.int (Int32.ofNat lN))] [(.ref b20)])
    refine Go.of (fun _ => XS.dup H18.here hx rfl (hb hby d_jdk_43_47_10) rfl rfl) ?_
    show Go p e below _ T17 (mkF m 11 #[.val (.ref b1), .val (.int (Int32.ofNat fN)), .val (.int (Int32.ofNat lN))] [(.ref b20), (.ref b20)])
    refine Go.of (fun _ => XS.aloadN H18.here hx rfl (hb hby d_jdk_43_47_11) rfl rfl) ?_
    show Go p e below _ T17 (mkF m 12 #[.val (.ref b1), .val (.int (Int32.ofNat fN)), .val (.int (Int32.ofNat lN))] [(.ref b1), (.ref b20), (.ref b20)])
    refine Go.of (fun _ => XS.iloadN H18.here hx rfl (hb hby d_jdk_43_47_12) rfl) ?_
    show Go p e below _ T17 (mkF m 13 #[.val (.ref b1), .val (.int (Int32.ofNat fN)), .val (.int (Int32.ofNat lN))] [(.int (Int32.ofNat fN)), (.ref b1), (.ref b20), (.ref b20)])
    refine Go.of (fun _ => XS.iloadN H18.here hx rfl (hb hby d_jdk_43_47_13) rfl) ?_
    show Go p e below _ T17 (mkF m 14 #[.val (.ref b1), .val (.int (Int32.ofNat fN)), .val (.int (Int32.ofNat lN))] [(.int (Int32.ofNat fN)), (.int (Int32.ofNat fN)), (.ref b1), (.ref b20), (.ref b20)])
    refine Go.of (fun _ => XS.iloadN H18.here hx rfl (hb hby d_jdk_43_47_14) rfl) ?_
    show Go p e below _ T17 (mkF m 15 #[.val (.ref b1), .val (.int (Int32.ofNat fN)), .val (.int (Int32.ofNat lN))] [(.int (Int32.ofNat lN)), (.int (Int32.ofNat fN)), (.int (Int32.ofNat fN)), (.ref b1), (.ref b20), (.ref b20)])
    refine Go.of (fun _ => XS.iadd H18.here hx rfl (hb hby d_jdk_43_47_15) rfl) ?_
    show Go p e below _ T17 (mkF m 16 #[.val (.ref b1), .val (.int (Int32.ofNat fN)), .val (.int (Int32.ofNat lN))] [(.int ((Int32.ofNat fN) + (Int32.ofNat lN))), (.int (Int32.ofNat fN)), (.ref b1), (.ref b20), (.ref b20)])
    rw [show ((Int32.ofNat fN) + (Int32.ofNat lN)) = (Int32.ofNat (fN + lN)) from own_onadd _ _]
    show Go p e below _ T17 (mkF m 16 #[.val (.ref b1), .val (.int (Int32.ofNat fN)), .val (.int (Int32.ofNat lN))] [(.int (Int32.ofNat (fN + lN))), (.int (Int32.ofNat fN)), (.ref b1), (.ref b20), (.ref b20)])
    refine own_staticW H18 hx (y := (⟨"java/util/Arrays", "copyOfRange", "([BII)[B"⟩ : MethodName)) hown (ow hw 100 rfl) (ow hw 101 rfl) (ow hw 102 rfl) (ow hw 103 rfl) (by decide) (W := 2) (rm_cor l Z a0 hw hE b1 kb zN fN lN _ h19 H18.old f29 hN h4 hNE) (fun _ hq => nomatch hq) (by decide) (by decide) rfl (by rw [hml]; rfl) (argsL := [(.ref b1), (.int (Int32.ofNat fN)), (.int (Int32.ofNat (fN + lN)))]) (rest := [(.ref b20), (.ref b20)]) rfl (lenOf pd_5 rfl) rfl (by show 2 * 0 + _ ≤ _; exact Nat.le_of_eq rfl) (hb hby d_jdk_43_47_16) (by decide) (by decide) fun T32 h34 v36 H33 hs37 q35 => ?_
    obtain ⟨r1, kr1, rfl, KC, zr1, gr1, VC⟩ := q35
    have ne38 : b1 ≠ r1 := Nat.ne_of_lt (Nat.lt_of_lt_of_le f29.lt zr1)
    have ne39 : b20 ≠ r1 := Nat.ne_of_lt (Nat.lt_of_lt_of_le A23.lt zr1)
    have K40 : Keep h0 h34 [] := K28.trans KC all0
    have f41 := f29.keep KC nin0
    have f42 := A23.keep KC
    have f43 := f30.keep KC nin0
    have f44 := f31.keep KC nin0
    show Go p e below _ T32 (mkF m 19 #[.val (.ref b1), .val (.int (Int32.ofNat fN)), .val (.int (Int32.ofNat lN))] [(.ref r1), (.ref b20), (.ref b20)])
    refine Go.of (fun _ => XS.iconst H33.here hx rfl (hb hby d_jdk_43_47_19)) ?_
    show Go p e below _ T32 (mkF m 20 #[.val (.ref b1), .val (.int (Int32.ofNat fN)), .val (.int (Int32.ofNat lN))] [(.int (0 : Int32)), (.ref r1), (.ref b20), (.ref b20)])
    refine own_specialW H33 hx (y := (⟨"java/lang/String", "<init>", "([BB)V"⟩ : MethodName)) rfl hown (ow hw 118 rfl) (ow hw 119 rfl) (ow hw 11 rfl) (ow hw 120 rfl) (by decide) (W := 1) (rm_sbb l Z a0 hw hE b20 r1 h34 H33.old f42 f43 f44 fr26) (allS (List.mem_of_getElem? (i := 0) rfl) all0) (by decide) (by decide) rfl (by rw [hml]; rfl) (a := b20) (argsL := [(.ref r1), (.int (0 : Int32))]) (rest := [(.ref b20)]) rfl (lenOf pd_6 rfl) rfl (by show 2 * 0 + _ ≤ _; exact Nat.le_of_eq rfl) (hb hby d_jdk_43_47_20) (by decide) (by decide) fun T45 h47 v49 H46 hs50 q48 => ?_
    obtain ⟨rfl, KK, EE, FC, FV⟩ := q48
    have VE := VC.keep KK (ninS (Ne.symm ne39) nin0)
    have K51 : Keep h0 h47 [] := K40.trans KK (allS (Or.inr sz27) all0)
    show Go p e below _ T45 (mkF m 23 #[.val (.ref b1), .val (.int (Int32.ofNat fN)), .val (.int (Int32.ofNat lN))] [(.ref b20)])
    exact own_retA H46 hx hlk hret rfl rfl (hb hby d_jdk_43_47_23) ⟨b20, rfl, K51, own_strOf EE FC FV (by have := VE; rw [own_slice (by omega)] at this; exact this) (by simp; omega) (own_trange hp _ _)⟩ (by decide) (by decide)
set_option maxRecDepth 65536 in
set_option maxHeartbeats 40000000 in
theorem rm_sub (l : Launch) (Z : State) (a0 : Array Value) (hw : ∀ d ∈ tables_1, d.before a0 Z = true) (hE : EW Z a0 ELx) (a1 : Addr) (fN : Nat) (eN : Nat) (cs : List Int32) (zc : Int32) (fm : Value) (h0 : Heap) (O0 : Ext Z.heap h0) (Sx : own_str Z h0 a1 cs) (lx : cs.length ≤ 4) (hp : ∀ c ∈ cs, ¬ c < 0 ∧ ¬ (255 : Int32) < c) (SC : Sta Z Z.heap "java/lang/String" "COMPACT_STRINGS" "Z" (.int zc)) (hzc : ¬ zc = 0) (SF : Sta Z Z.heap "jdk/internal/util/Preconditions" "SIOOBE_FORMATTER" "Ljava/util/function/BiFunction;" fm) (hfm : fm.isRef = true) (hfe : fN ≤ eN) (hel : eN ≤ cs.length) :
    Ct l Z ELx a0 true (⟨"java/lang/String", "substring", "(II)Ljava/lang/String;"⟩ : MethodName) jdk_42_method_92_code 5 (some (.object "java/lang/String")) [] ({ frames := 4, cells := 4, slots := 12, locals := 135 } : Room) #[(.ref a1), (.int (Int32.ofNat fN)), (.int (Int32.ofNat eN))] h0 [] (fun v h => ∃ r, v = some (.ref r) ∧ Keep h0 h [] ∧ own_str Z h r ((cs.drop fN).take (eN - fN))) := by
  refine own_enter (plainFor_of_name pn_0) hE O0 ?_
  intro p e s m below meth c s₁ hx hby hml hown hnm hret hlk H0
  refine Go.eq (ef_rm_sub m a1 (Int32.ofNat fN) (Int32.ofNat eN)) ?_
  have Ex := Sx.exa
  obtain ⟨t1, kt1, E1, FC1, FV1, V1⟩ := own_lat Sx hp
  show Go p e below _ s₁ (mkF m 0 #[.val (.ref a1), .val (.int (Int32.ofNat fN)), .val (.int (Int32.ofNat eN)), .unset, .unset] [])
  refine Go.of (fun _ => XS.aloadN H0.here hx rfl (hb hby d_jdk_42_92_0) rfl rfl) ?_
  show Go p e below _ s₁ (mkF m 1 #[.val (.ref a1), .val (.int (Int32.ofNat fN)), .val (.int (Int32.ofNat eN)), .unset, .unset] [(.ref a1)])
  refine own_lenS H0 hx hown (ow hw 53 rfl) (ow hw 38 rfl) (ow hw 40 rfl) (ow hw 39 rfl) (own_hwl hw) (ow hw 10 rfl) Sx (Nat.le_trans lx (by decide)) SC hzc (W := 0) (by decide) (by decide) rfl (by rw [hml]; rfl) rfl (by show 2 * 0 + _ ≤ _; exact Nat.le_of_eq rfl) (hb hby d_jdk_42_92_1) (by decide) (by decide) fun T1 H2 => ?_
  show Go p e below _ T1 (mkF m 4 #[.val (.ref a1), .val (.int (Int32.ofNat fN)), .val (.int (Int32.ofNat eN)), .unset, .unset] [(.int (Int32.ofNat (cs).length))])
  refine Go.of (fun _ => XS.istoreN H2.here hx rfl (hb hby d_jdk_42_92_4) rfl (l' := #[.val (.ref a1), .val (.int (Int32.ofNat fN)), .val (.int (Int32.ofNat eN)), .val (.int (Int32.ofNat (cs).length)), .unset]) rfl) ?_
  show Go p e below _ T1 (mkF m 5 #[.val (.ref a1), .val (.int (Int32.ofNat fN)), .val (.int (Int32.ofNat eN)), .val (.int (Int32.ofNat (cs).length)), .unset] [])
  refine Go.of (fun _ => XS.iloadN H2.here hx rfl (hb hby d_jdk_42_92_5) rfl) ?_
  show Go p e below _ T1 (mkF m 6 #[.val (.ref a1), .val (.int (Int32.ofNat fN)), .val (.int (Int32.ofNat eN)), .val (.int (Int32.ofNat (cs).length)), .unset] [(.int (Int32.ofNat fN))])
  refine Go.of (fun _ => XS.iloadN H2.here hx rfl (hb hby d_jdk_42_92_6) rfl) ?_
  show Go p e below _ T1 (mkF m 7 #[.val (.ref a1), .val (.int (Int32.ofNat fN)), .val (.int (Int32.ofNat eN)), .val (.int (Int32.ofNat (cs).length)), .unset] [(.int (Int32.ofNat eN)), (.int (Int32.ofNat fN))])
  refine Go.of (fun _ => XS.iloadN H2.here hx rfl (hb hby d_jdk_42_92_7) rfl) ?_
  show Go p e below _ T1 (mkF m 8 #[.val (.ref a1), .val (.int (Int32.ofNat fN)), .val (.int (Int32.ofNat eN)), .val (.int (Int32.ofNat (cs).length)), .unset] [(.int (Int32.ofNat (cs).length)), (.int (Int32.ofNat eN)), (.int (Int32.ofNat fN))])
  refine own_staticW H2 hx (y := (⟨"java/lang/String", "checkBoundsBeginEnd", "(III)V"⟩ : MethodName)) hown (ow hw 54 rfl) (ow hw 55 rfl) (ow hw 11 rfl) (ow hw 56 rfl) (by decide) (W := 0) (rm_cbb l Z a0 hw hE (Int32.ofNat fN) (Int32.ofNat eN) (Int32.ofNat (cs).length) fm h0 H2.old SF hfm (own_on0 (by omega)) (by rw [own_onlt (by omega) (by omega)]; omega) (by rw [own_onlt (by omega) (by omega)]; omega)) (fun _ hq => nomatch hq) (by decide) (by decide) rfl (by rw [hml]; rfl) (argsL := [(.int (Int32.ofNat fN)), (.int (Int32.ofNat eN)), (.int (Int32.ofNat (cs).length))]) (rest := []) rfl (lenOf pd_7 rfl) rfl (by show 2 * 0 + _ ≤ _; exact Nat.le_of_eq rfl) (hb hby d_jdk_42_92_8) (by decide) (by decide) fun T3 h5 v7 H4 hs8 q6 => ?_
  obtain ⟨ve10, e9⟩ := q6
  subst e9
  subst ve10
  show Go p e below _ T3 (mkF m 11 #[.val (.ref a1), .val (.int (Int32.ofNat fN)), .val (.int (Int32.ofNat eN)), .val (.int (Int32.ofNat (cs).length)), .unset] [])
  refine Go.of (fun _ => XS.iloadN H4.here hx rfl (hb hby d_jdk_42_92_11) rfl) ?_
  show Go p e below _ T3 (mkF m 12 #[.val (.ref a1), .val (.int (Int32.ofNat fN)), .val (.int (Int32.ofNat eN)), .val (.int (Int32.ofNat (cs).length)), .unset] [(.int (Int32.ofNat fN))])
  by_cases hbr11 : (Int32.ofNat fN) = (0 : Int32)
  · skip
    refine Go.of (fun _ => XS.ifNo H4.here hx rfl (hb hby d_jdk_42_92_12) rfl ((if0 _ _).trans (teq hbr11).2)) ?_
    show Go p e below _ T3 (mkF m 15 #[.val (.ref a1), .val (.int (Int32.ofNat fN)), .val (.int (Int32.ofNat eN)), .val (.int (Int32.ofNat (cs).length)), .unset] [])
    refine Go.of (fun _ => XS.iloadN H4.here hx rfl (hb hby d_jdk_42_92_15) rfl) ?_
    show Go p e below _ T3 (mkF m 16 #[.val (.ref a1), .val (.int (Int32.ofNat fN)), .val (.int (Int32.ofNat eN)), .val (.int (Int32.ofNat (cs).length)), .unset] [(.int (Int32.ofNat eN))])
    refine Go.of (fun _ => XS.iloadN H4.here hx rfl (hb hby d_jdk_42_92_16) rfl) ?_
    show Go p e below _ T3 (mkF m 17 #[.val (.ref a1), .val (.int (Int32.ofNat fN)), .val (.int (Int32.ofNat eN)), .val (.int (Int32.ofNat (cs).length)), .unset] [(.int (Int32.ofNat (cs).length)), (.int (Int32.ofNat eN))])
    by_cases hbr12 : (Int32.ofNat eN) = (Int32.ofNat (cs).length)
    · skip
      refine Go.of (fun _ => XS.icmpNo H4.here hx rfl (hb hby d_jdk_42_92_17) rfl (teq hbr12).2) ?_
      show Go p e below _ T3 (mkF m 20 #[.val (.ref a1), .val (.int (Int32.ofNat fN)), .val (.int (Int32.ofNat eN)), .val (.int (Int32.ofNat (cs).length)), .unset] [])
      refine Go.of (fun _ => XS.aloadN H4.here hx rfl (hb hby d_jdk_42_92_20) rfl rfl) ?_
      show Go p e below _ T3 (mkF m 21 #[.val (.ref a1), .val (.int (Int32.ofNat fN)), .val (.int (Int32.ofNat eN)), .val (.int (Int32.ofNat (cs).length)), .unset] [(.ref a1)])
      exact own_retA H4 hx hlk hret rfl rfl (hb hby d_jdk_42_92_21) ⟨a1, rfl, Keep.refl _ _, by rw [show fN = 0 from (own_onz (by omega)).mp hbr11, show eN = cs.length from (own_oneq (by omega) (by omega)).mp hbr12]; simpa using Sx⟩ (by decide) (by decide)
    · skip
      refine Go.of (fun _ => XS.icmpYes H4.here hx rfl (pc0 := 17) (pc' := 22) rfl (hb hby d_jdk_42_92_17) rfl (feq hbr12).2 (by decide) (by decide)) ?_
      show Go p e below _ T3 (mkF m 22 #[.val (.ref a1), .val (.int (Int32.ofNat fN)), .val (.int (Int32.ofNat eN)), .val (.int (Int32.ofNat (cs).length)), .unset] [])
      refine Go.of (fun _ => XS.iloadN H4.here hx rfl (hb hby d_jdk_42_92_22) rfl) ?_
      show Go p e below _ T3 (mkF m 23 #[.val (.ref a1), .val (.int (Int32.ofNat fN)), .val (.int (Int32.ofNat eN)), .val (.int (Int32.ofNat (cs).length)), .unset] [(.int (Int32.ofNat eN))])
      refine Go.of (fun _ => XS.iloadN H4.here hx rfl (hb hby d_jdk_42_92_23) rfl) ?_
      show Go p e below _ T3 (mkF m 24 #[.val (.ref a1), .val (.int (Int32.ofNat fN)), .val (.int (Int32.ofNat eN)), .val (.int (Int32.ofNat (cs).length)), .unset] [(.int (Int32.ofNat fN)), (.int (Int32.ofNat eN))])
      refine Go.of (fun _ => XS.isub H4.here hx rfl (hb hby d_jdk_42_92_24) rfl) ?_
      show Go p e below _ T3 (mkF m 25 #[.val (.ref a1), .val (.int (Int32.ofNat fN)), .val (.int (Int32.ofNat eN)), .val (.int (Int32.ofNat (cs).length)), .unset] [(.int ((Int32.ofNat eN) - (Int32.ofNat fN)))])
      refine Go.of (fun _ => XS.istore H4.here hx rfl (hb hby d_jdk_42_92_25) rfl (l' := #[.val (.ref a1), .val (.int (Int32.ofNat fN)), .val (.int (Int32.ofNat eN)), .val (.int (Int32.ofNat (cs).length)), .val (.int ((Int32.ofNat eN) - (Int32.ofNat fN)))]) rfl) ?_
      show Go p e below _ T3 (mkF m 27 #[.val (.ref a1), .val (.int (Int32.ofNat fN)), .val (.int (Int32.ofNat eN)), .val (.int (Int32.ofNat (cs).length)), .val (.int ((Int32.ofNat eN) - (Int32.ofNat fN)))] [])
      refine Go.of (fun _ => XS.aloadN H4.here hx rfl (hb hby d_jdk_42_92_27) rfl rfl) ?_
      show Go p e below _ T3 (mkF m 28 #[.val (.ref a1), .val (.int (Int32.ofNat fN)), .val (.int (Int32.ofNat eN)), .val (.int (Int32.ofNat (cs).length)), .val (.int ((Int32.ofNat eN) - (Int32.ofNat fN)))] [(.ref a1)])
      refine own_virtualW H4 hx (y := (⟨"java/lang/String", "isLatin1", "()Z"⟩ : MethodName)) (z := (⟨"java/lang/String", "isLatin1", "()Z"⟩ : MethodName)) hown (ow hw 78 rfl) (ow hw 79 rfl) (own_nf (ow hw 81 rfl) rfl) (ow hw 81 rfl) (ow hw 80 rfl) (ow hw 11 rfl) (ow hw 82 rfl) (by decide) (W := 0) (rm_isl l Z a0 hw hE a1 zc h0 H4.old FC1 SC hzc) (fun _ hq => nomatch hq) (by decide) (by decide) E1 rfl (by rw [hml]; rfl) (argsL := []) (rest := []) rfl (lenOf pd_8 rfl) rfl (by show 2 * 0 + _ ≤ _; exact Nat.le_of_eq rfl) (hb hby d_jdk_42_92_28) (by decide) (by decide) fun T13 h15 v17 H14 hs18 q16 => ?_
      obtain ⟨ve20, e19⟩ := q16
      subst e19
      subst ve20
      show Go p e below _ T13 (mkF m 31 #[.val (.ref a1), .val (.int (Int32.ofNat fN)), .val (.int (Int32.ofNat eN)), .val (.int (Int32.ofNat (cs).length)), .val (.int ((Int32.ofNat eN) - (Int32.ofNat fN)))] [(.int (1 : Int32))])
      refine Go.of (fun _ => XS.ifNo H14.here hx rfl (hb hby d_jdk_42_92_31) rfl ((if0 _ _).trans (feq (by decide : ¬ ((1 : Int32) = (0 : Int32)))).1)) ?_
      show Go p e below _ T13 (mkF m 34 #[.val (.ref a1), .val (.int (Int32.ofNat fN)), .val (.int (Int32.ofNat eN)), .val (.int (Int32.ofNat (cs).length)), .val (.int ((Int32.ofNat eN) - (Int32.ofNat fN)))] [])
      refine Go.of (fun _ => XS.aloadN H14.here hx rfl (hb hby d_jdk_42_92_34) rfl rfl) ?_
      show Go p e below _ T13 (mkF m 35 #[.val (.ref a1), .val (.int (Int32.ofNat fN)), .val (.int (Int32.ofNat eN)), .val (.int (Int32.ofNat (cs).length)), .val (.int ((Int32.ofNat eN) - (Int32.ofNat fN)))] [(.ref a1)])
      refine own_getF H14 hx hown (host := "") (Or.inl (ow hw 28 rfl)) Via.refl FV1 rfl rfl (hb hby d_jdk_42_92_35) fun T21 H22 => ?_
      show Go p e below _ T21 (mkF m 38 #[.val (.ref a1), .val (.int (Int32.ofNat fN)), .val (.int (Int32.ofNat eN)), .val (.int (Int32.ofNat (cs).length)), .val (.int ((Int32.ofNat eN) - (Int32.ofNat fN)))] [(.ref t1)])
      refine Go.of (fun _ => XS.iloadN H22.here hx rfl (hb hby d_jdk_42_92_38) rfl) ?_
      show Go p e below _ T21 (mkF m 39 #[.val (.ref a1), .val (.int (Int32.ofNat fN)), .val (.int (Int32.ofNat eN)), .val (.int (Int32.ofNat (cs).length)), .val (.int ((Int32.ofNat eN) - (Int32.ofNat fN)))] [(.int (Int32.ofNat fN)), (.ref t1)])
      refine Go.of (fun _ => XS.iload H22.here hx rfl (hb hby d_jdk_42_92_39) rfl) ?_
      show Go p e below _ T21 (mkF m 41 #[.val (.ref a1), .val (.int (Int32.ofNat fN)), .val (.int (Int32.ofNat eN)), .val (.int (Int32.ofNat (cs).length)), .val (.int ((Int32.ofNat eN) - (Int32.ofNat fN)))] [(.int ((Int32.ofNat eN) - (Int32.ofNat fN))), (.int (Int32.ofNat fN)), (.ref t1)])
      rw [show ((Int32.ofNat eN) - (Int32.ofNat fN)) = (Int32.ofNat (eN - fN)) from own_onsub hfe (by omega)]
      show Go p e below _ T21 (mkF m 41 #[.val (.ref a1), .val (.int (Int32.ofNat fN)), .val (.int (Int32.ofNat eN)), .val (.int (Int32.ofNat (cs).length)), .val (.int (Int32.ofNat (eN - fN)))] [(.int (Int32.ofNat (eN - fN))), (.int (Int32.ofNat fN)), (.ref t1)])
      refine own_staticW H22 hx (y := (⟨"java/lang/StringLatin1", "newString", "([BII)Ljava/lang/String;"⟩ : MethodName)) hown (ow hw 96 rfl) (ow hw 97 rfl) (ow hw 85 rfl) (ow hw 98 rfl) (by decide) (W := 0) (rm_ns l Z a0 hw hE t1 kt1 cs.length fN (eN - fN) cs h0 H22.old V1 rfl (by omega) lx (fun q => hbr12 ((own_oneq (by omega) (by omega)).mpr (by omega))) hp) (fun _ hq => nomatch hq) (by decide) (by decide) rfl (by rw [hml]; rfl) (argsL := [(.ref t1), (.int (Int32.ofNat fN)), (.int (Int32.ofNat (eN - fN)))]) (rest := []) rfl (lenOf pd_9 rfl) rfl (by show 2 * 0 + _ ≤ _; exact Nat.le_of_eq rfl) (hb hby d_jdk_42_92_41) (by decide) (by decide) fun T23 h25 v27 H24 hs28 q26 => ?_
      obtain ⟨r1, rfl, KK, SS⟩ := q26
      show Go p e below _ T23 (mkF m 44 #[.val (.ref a1), .val (.int (Int32.ofNat fN)), .val (.int (Int32.ofNat eN)), .val (.int (Int32.ofNat (cs).length)), .val (.int (Int32.ofNat (eN - fN)))] [(.ref r1)])
      refine Go.of (fun _ => XS.goto H24.here hx rfl (pc0 := 44) (pc' := 57) rfl (hb hby d_jdk_42_92_44) (by decide) (by decide)) ?_
      show Go p e below _ T23 (mkF m 57 #[.val (.ref a1), .val (.int (Int32.ofNat fN)), .val (.int (Int32.ofNat eN)), .val (.int (Int32.ofNat (cs).length)), .val (.int (Int32.ofNat (eN - fN)))] [(.ref r1)])
      exact own_retA H24 hx hlk hret rfl rfl (hb hby d_jdk_42_92_57) ⟨r1, rfl, KK, SS⟩ (by decide) (by decide)
  · skip
    refine Go.of (fun _ => XS.ifYes H4.here hx rfl (pc0 := 12) (pc' := 22) rfl (hb hby d_jdk_42_92_12) rfl ((if0 _ _).trans (feq hbr11).2) (by decide) (by decide)) ?_
    show Go p e below _ T3 (mkF m 22 #[.val (.ref a1), .val (.int (Int32.ofNat fN)), .val (.int (Int32.ofNat eN)), .val (.int (Int32.ofNat (cs).length)), .unset] [])
    refine Go.of (fun _ => XS.iloadN H4.here hx rfl (hb hby d_jdk_42_92_22) rfl) ?_
    show Go p e below _ T3 (mkF m 23 #[.val (.ref a1), .val (.int (Int32.ofNat fN)), .val (.int (Int32.ofNat eN)), .val (.int (Int32.ofNat (cs).length)), .unset] [(.int (Int32.ofNat eN))])
    refine Go.of (fun _ => XS.iloadN H4.here hx rfl (hb hby d_jdk_42_92_23) rfl) ?_
    show Go p e below _ T3 (mkF m 24 #[.val (.ref a1), .val (.int (Int32.ofNat fN)), .val (.int (Int32.ofNat eN)), .val (.int (Int32.ofNat (cs).length)), .unset] [(.int (Int32.ofNat fN)), (.int (Int32.ofNat eN))])
    refine Go.of (fun _ => XS.isub H4.here hx rfl (hb hby d_jdk_42_92_24) rfl) ?_
    show Go p e below _ T3 (mkF m 25 #[.val (.ref a1), .val (.int (Int32.ofNat fN)), .val (.int (Int32.ofNat eN)), .val (.int (Int32.ofNat (cs).length)), .unset] [(.int ((Int32.ofNat eN) - (Int32.ofNat fN)))])
    refine Go.of (fun _ => XS.istore H4.here hx rfl (hb hby d_jdk_42_92_25) rfl (l' := #[.val (.ref a1), .val (.int (Int32.ofNat fN)), .val (.int (Int32.ofNat eN)), .val (.int (Int32.ofNat (cs).length)), .val (.int ((Int32.ofNat eN) - (Int32.ofNat fN)))]) rfl) ?_
    show Go p e below _ T3 (mkF m 27 #[.val (.ref a1), .val (.int (Int32.ofNat fN)), .val (.int (Int32.ofNat eN)), .val (.int (Int32.ofNat (cs).length)), .val (.int ((Int32.ofNat eN) - (Int32.ofNat fN)))] [])
    refine Go.of (fun _ => XS.aloadN H4.here hx rfl (hb hby d_jdk_42_92_27) rfl rfl) ?_
    show Go p e below _ T3 (mkF m 28 #[.val (.ref a1), .val (.int (Int32.ofNat fN)), .val (.int (Int32.ofNat eN)), .val (.int (Int32.ofNat (cs).length)), .val (.int ((Int32.ofNat eN) - (Int32.ofNat fN)))] [(.ref a1)])
    refine own_virtualW H4 hx (y := (⟨"java/lang/String", "isLatin1", "()Z"⟩ : MethodName)) (z := (⟨"java/lang/String", "isLatin1", "()Z"⟩ : MethodName)) hown (ow hw 78 rfl) (ow hw 79 rfl) (own_nf (ow hw 81 rfl) rfl) (ow hw 81 rfl) (ow hw 80 rfl) (ow hw 11 rfl) (ow hw 82 rfl) (by decide) (W := 0) (rm_isl l Z a0 hw hE a1 zc h0 H4.old FC1 SC hzc) (fun _ hq => nomatch hq) (by decide) (by decide) E1 rfl (by rw [hml]; rfl) (argsL := []) (rest := []) rfl (lenOf pd_8 rfl) rfl (by show 2 * 0 + _ ≤ _; exact Nat.le_of_eq rfl) (hb hby d_jdk_42_92_28) (by decide) (by decide) fun T29 h31 v33 H30 hs34 q32 => ?_
    obtain ⟨ve36, e35⟩ := q32
    subst e35
    subst ve36
    show Go p e below _ T29 (mkF m 31 #[.val (.ref a1), .val (.int (Int32.ofNat fN)), .val (.int (Int32.ofNat eN)), .val (.int (Int32.ofNat (cs).length)), .val (.int ((Int32.ofNat eN) - (Int32.ofNat fN)))] [(.int (1 : Int32))])
    refine Go.of (fun _ => XS.ifNo H30.here hx rfl (hb hby d_jdk_42_92_31) rfl ((if0 _ _).trans (feq (by decide : ¬ ((1 : Int32) = (0 : Int32)))).1)) ?_
    show Go p e below _ T29 (mkF m 34 #[.val (.ref a1), .val (.int (Int32.ofNat fN)), .val (.int (Int32.ofNat eN)), .val (.int (Int32.ofNat (cs).length)), .val (.int ((Int32.ofNat eN) - (Int32.ofNat fN)))] [])
    refine Go.of (fun _ => XS.aloadN H30.here hx rfl (hb hby d_jdk_42_92_34) rfl rfl) ?_
    show Go p e below _ T29 (mkF m 35 #[.val (.ref a1), .val (.int (Int32.ofNat fN)), .val (.int (Int32.ofNat eN)), .val (.int (Int32.ofNat (cs).length)), .val (.int ((Int32.ofNat eN) - (Int32.ofNat fN)))] [(.ref a1)])
    refine own_getF H30 hx hown (host := "") (Or.inl (ow hw 28 rfl)) Via.refl FV1 rfl rfl (hb hby d_jdk_42_92_35) fun T37 H38 => ?_
    show Go p e below _ T37 (mkF m 38 #[.val (.ref a1), .val (.int (Int32.ofNat fN)), .val (.int (Int32.ofNat eN)), .val (.int (Int32.ofNat (cs).length)), .val (.int ((Int32.ofNat eN) - (Int32.ofNat fN)))] [(.ref t1)])
    refine Go.of (fun _ => XS.iloadN H38.here hx rfl (hb hby d_jdk_42_92_38) rfl) ?_
    show Go p e below _ T37 (mkF m 39 #[.val (.ref a1), .val (.int (Int32.ofNat fN)), .val (.int (Int32.ofNat eN)), .val (.int (Int32.ofNat (cs).length)), .val (.int ((Int32.ofNat eN) - (Int32.ofNat fN)))] [(.int (Int32.ofNat fN)), (.ref t1)])
    refine Go.of (fun _ => XS.iload H38.here hx rfl (hb hby d_jdk_42_92_39) rfl) ?_
    show Go p e below _ T37 (mkF m 41 #[.val (.ref a1), .val (.int (Int32.ofNat fN)), .val (.int (Int32.ofNat eN)), .val (.int (Int32.ofNat (cs).length)), .val (.int ((Int32.ofNat eN) - (Int32.ofNat fN)))] [(.int ((Int32.ofNat eN) - (Int32.ofNat fN))), (.int (Int32.ofNat fN)), (.ref t1)])
    rw [show ((Int32.ofNat eN) - (Int32.ofNat fN)) = (Int32.ofNat (eN - fN)) from own_onsub hfe (by omega)]
    show Go p e below _ T37 (mkF m 41 #[.val (.ref a1), .val (.int (Int32.ofNat fN)), .val (.int (Int32.ofNat eN)), .val (.int (Int32.ofNat (cs).length)), .val (.int (Int32.ofNat (eN - fN)))] [(.int (Int32.ofNat (eN - fN))), (.int (Int32.ofNat fN)), (.ref t1)])
    refine own_staticW H38 hx (y := (⟨"java/lang/StringLatin1", "newString", "([BII)Ljava/lang/String;"⟩ : MethodName)) hown (ow hw 96 rfl) (ow hw 97 rfl) (ow hw 85 rfl) (ow hw 98 rfl) (by decide) (W := 0) (rm_ns l Z a0 hw hE t1 kt1 cs.length fN (eN - fN) cs h0 H38.old V1 rfl (by omega) lx (fun q => hbr11 ((own_onz (by omega)).mpr q.1)) hp) (fun _ hq => nomatch hq) (by decide) (by decide) rfl (by rw [hml]; rfl) (argsL := [(.ref t1), (.int (Int32.ofNat fN)), (.int (Int32.ofNat (eN - fN)))]) (rest := []) rfl (lenOf pd_9 rfl) rfl (by show 2 * 0 + _ ≤ _; exact Nat.le_of_eq rfl) (hb hby d_jdk_42_92_41) (by decide) (by decide) fun T39 h41 v43 H40 hs44 q42 => ?_
    obtain ⟨r1, rfl, KK, SS⟩ := q42
    show Go p e below _ T39 (mkF m 44 #[.val (.ref a1), .val (.int (Int32.ofNat fN)), .val (.int (Int32.ofNat eN)), .val (.int (Int32.ofNat (cs).length)), .val (.int (Int32.ofNat (eN - fN)))] [(.ref r1)])
    refine Go.of (fun _ => XS.goto H40.here hx rfl (pc0 := 44) (pc' := 57) rfl (hb hby d_jdk_42_92_44) (by decide) (by decide)) ?_
    show Go p e below _ T39 (mkF m 57 #[.val (.ref a1), .val (.int (Int32.ofNat fN)), .val (.int (Int32.ofNat eN)), .val (.int (Int32.ofNat (cs).length)), .val (.int (Int32.ofNat (eN - fN)))] [(.ref r1)])
    exact own_retA H40 hx hlk hret rfl rfl (hb hby d_jdk_42_92_57) ⟨r1, rfl, KK, SS⟩ (by decide) (by decide)
set_option maxRecDepth 65536 in
set_option maxHeartbeats 40000000 in
theorem rm_trim (l : Launch) (Z : State) (a0 : Array Value) (hw : ∀ d ∈ tables_1, d.before a0 Z = true) (hE : EW Z a0 ELx) (a1 : Addr) (cs : List Int32) (zc : Int32) (fm : Value) (h0 : Heap) (O0 : Ext Z.heap h0) (Sx : own_str Z h0 a1 cs) (lx : cs.length ≤ 4) (hp : ∀ c ∈ cs, ¬ c < 0 ∧ ¬ (255 : Int32) < c) (SC : Sta Z Z.heap "java/lang/String" "COMPACT_STRINGS" "Z" (.int zc)) (hzc : ¬ zc = 0) (SF : Sta Z Z.heap "jdk/internal/util/Preconditions" "SIOOBE_FORMATTER" "Ljava/util/function/BiFunction;" fm) (hfm : fm.isRef = true) :
    Ct l Z ELx a0 true (⟨"com/example/brokerward/brokerward/http/RequestHead", "trim", "(Ljava/lang/String;)Ljava/lang/String;"⟩ : MethodName) prog_25_method_11_code 3 (some (.object "java/lang/String")) [] ({ frames := 5, cells := 4, slots := 12, locals := 151 } : Room) #[(.ref a1)] h0 [] (fun v h => ∃ r, v = some (.ref r) ∧ Keep h0 h [] ∧ own_str Z h r (own_trim cs)) := by
  refine own_enter (plainFor_of_name pn_2) hE O0 ?_
  intro p e s m below meth c s₁ hx hby hml hown hnm hret hlk H0
  refine Go.eq (ef_rm_trim m a1) ?_
  have hl4 : cs.length ≤ 4 := lx
  have L2 : ∀ (k1 i1 j1 : Nat) (T : State), i1 + k1 = j1 → j1 ≤ cs.length → own_trim cs = own_rdw ((cs.drop i1).take (j1 - i1)) → Wk p l e ({ frames := 5, cells := 4, slots := 12, locals := 151 } : Room) s m #[(.ref a1)] below meth c Z ELx a0 true T h0 0 0 [] → Go p e below (own_fin Z ELx true s below (fun v h => ∃ r, v = some (.ref r) ∧ Keep h0 h [] ∧ own_str Z h r (own_trim cs)) (({ frames := 5, cells := 4, slots := 12, locals := 151 } : Room)).cells (({ frames := 5, cells := 4, slots := 12, locals := 151 } : Room)).slots) T (mkF m 29 #[.val (.ref a1), .val (.int (Int32.ofNat i1)), .val (.int (Int32.ofNat j1))] []) := by
    intro k1
    induction k1 with
    | zero =>
      intro i1 j1 T hij hjl htr H
      have hlt : ¬ Int32.ofNat i1 < Int32.ofNat j1 := by rw [own_onlt (by omega) (by omega)]; omega
      show Go p e below _ T (mkF m 29 #[.val (.ref a1), .val (.int (Int32.ofNat i1)), .val (.int (Int32.ofNat j1))] [])
      refine Go.of (fun _ => XS.iloadN H.here hx rfl (hb hby d_prog_25_11_29) rfl) ?_
      show Go p e below _ T (mkF m 30 #[.val (.ref a1), .val (.int (Int32.ofNat i1)), .val (.int (Int32.ofNat j1))] [(.int (Int32.ofNat j1))])
      refine Go.of (fun _ => XS.iloadN H.here hx rfl (hb hby d_prog_25_11_30) rfl) ?_
      show Go p e below _ T (mkF m 31 #[.val (.ref a1), .val (.int (Int32.ofNat i1)), .val (.int (Int32.ofNat j1))] [(.int (Int32.ofNat i1)), (.int (Int32.ofNat j1))])
      refine Go.of (fun _ => XS.icmpYes H.here hx rfl (pc0 := 31) (pc' := 53) rfl (hb hby d_prog_25_11_31) rfl (flt hlt).2.2.2 (by decide) (by decide)) ?_
      show Go p e below _ T (mkF m 53 #[.val (.ref a1), .val (.int (Int32.ofNat i1)), .val (.int (Int32.ofNat j1))] [])
      refine Go.of (fun _ => XS.aloadN H.here hx rfl (hb hby d_prog_25_11_53) rfl rfl) ?_
      show Go p e below _ T (mkF m 54 #[.val (.ref a1), .val (.int (Int32.ofNat i1)), .val (.int (Int32.ofNat j1))] [(.ref a1)])
      refine Go.of (fun _ => XS.iloadN H.here hx rfl (hb hby d_prog_25_11_54) rfl) ?_
      show Go p e below _ T (mkF m 55 #[.val (.ref a1), .val (.int (Int32.ofNat i1)), .val (.int (Int32.ofNat j1))] [(.int (Int32.ofNat i1)), (.ref a1)])
      refine Go.of (fun _ => XS.iloadN H.here hx rfl (hb hby d_prog_25_11_55) rfl) ?_
      show Go p e below _ T (mkF m 56 #[.val (.ref a1), .val (.int (Int32.ofNat i1)), .val (.int (Int32.ofNat j1))] [(.int (Int32.ofNat j1)), (.int (Int32.ofNat i1)), (.ref a1)])
      refine own_virtualW H hx (y := (⟨"java/lang/String", "substring", "(II)Ljava/lang/String;"⟩ : MethodName)) (z := (⟨"java/lang/String", "substring", "(II)Ljava/lang/String;"⟩ : MethodName)) hown (ow hw 48 rfl) (ow hw 49 rfl) (own_nf (ow hw 51 rfl) rfl) (ow hw 51 rfl) (ow hw 50 rfl) (ow hw 11 rfl) (ow hw 52 rfl) (by decide) (W := 0) (rm_sub l Z a0 hw hE a1 i1 j1 cs zc fm h0 H.old Sx lx hp SC hzc SF hfm (by omega) (by omega)) (fun _ hq => nomatch hq) (by decide) (by decide) Sx.exa rfl (by rw [hml]; rfl) (argsL := [(.int (Int32.ofNat i1)), (.int (Int32.ofNat j1))]) (rest := []) rfl (lenOf pd_10 rfl) rfl (by show 2 * 0 + _ ≤ _; exact Nat.le_of_eq rfl) (hb hby d_prog_25_11_56) (by decide) (by decide) fun T1 h3 v5 H2 hs6 q4 => ?_
      obtain ⟨r1, rfl, KK, SS⟩ := q4
      rw [← own_tr_end (by omega) htr] at SS
      show Go p e below _ T1 (mkF m 59 #[.val (.ref a1), .val (.int (Int32.ofNat i1)), .val (.int (Int32.ofNat j1))] [(.ref r1)])
      exact own_retA H2 hx hlk hret rfl rfl (hb hby d_prog_25_11_59) ⟨r1, rfl, KK, SS⟩ (by decide) (by decide)
    | succ k1 ih =>
      intro i1 j1 T hij hjl htr H
      have hlt : Int32.ofNat i1 < Int32.ofNat j1 := by rw [own_onlt (by omega) (by omega)]; omega
      show Go p e below _ T (mkF m 29 #[.val (.ref a1), .val (.int (Int32.ofNat i1)), .val (.int (Int32.ofNat j1))] [])
      refine Go.of (fun _ => XS.iloadN H.here hx rfl (hb hby d_prog_25_11_29) rfl) ?_
      show Go p e below _ T (mkF m 30 #[.val (.ref a1), .val (.int (Int32.ofNat i1)), .val (.int (Int32.ofNat j1))] [(.int (Int32.ofNat j1))])
      refine Go.of (fun _ => XS.iloadN H.here hx rfl (hb hby d_prog_25_11_30) rfl) ?_
      show Go p e below _ T (mkF m 31 #[.val (.ref a1), .val (.int (Int32.ofNat i1)), .val (.int (Int32.ofNat j1))] [(.int (Int32.ofNat i1)), (.int (Int32.ofNat j1))])
      refine Go.of (fun _ => XS.icmpNo H.here hx rfl (hb hby d_prog_25_11_31) rfl (tlt hlt).2.2.2) ?_
      show Go p e below _ T (mkF m 34 #[.val (.ref a1), .val (.int (Int32.ofNat i1)), .val (.int (Int32.ofNat j1))] [])
      refine Go.of (fun _ => XS.aloadN H.here hx rfl (hb hby d_prog_25_11_34) rfl rfl) ?_
      show Go p e below _ T (mkF m 35 #[.val (.ref a1), .val (.int (Int32.ofNat i1)), .val (.int (Int32.ofNat j1))] [(.ref a1)])
      refine Go.of (fun _ => XS.iloadN H.here hx rfl (hb hby d_prog_25_11_35) rfl) ?_
      show Go p e below _ T (mkF m 36 #[.val (.ref a1), .val (.int (Int32.ofNat i1)), .val (.int (Int32.ofNat j1))] [(.int (Int32.ofNat j1)), (.ref a1)])
      refine Go.of (fun _ => XS.iconst H.here hx rfl (hb hby d_prog_25_11_36)) ?_
      show Go p e below _ T (mkF m 37 #[.val (.ref a1), .val (.int (Int32.ofNat i1)), .val (.int (Int32.ofNat j1))] [(.int (1 : Int32)), (.int (Int32.ofNat j1)), (.ref a1)])
      refine Go.of (fun _ => XS.isub H.here hx rfl (hb hby d_prog_25_11_37) rfl) ?_
      show Go p e below _ T (mkF m 38 #[.val (.ref a1), .val (.int (Int32.ofNat i1)), .val (.int (Int32.ofNat j1))] [(.int ((Int32.ofNat j1) - (1 : Int32))), (.ref a1)])
      have hj1 : ((Int32.ofNat j1) - (1 : Int32)) = Int32.ofNat (j1 - 1) := own_onsub (b := 1) (by omega) (by omega)
      refine own_chS H hx hown (ow hw 73 rfl) (ow hw 74 rfl) (ow hw 76 rfl) (ow hw 75 rfl) (own_hwc hw) (ow hw 10 rfl) (i := (j1 - 1)) Sx (Nat.le_trans lx (by decide)) hp (by omega) hj1 SC hzc SF hfm (W := 0) (by decide) (by decide) rfl (by rw [hml]; rfl) rfl (by show 2 * 0 + _ ≤ _; exact Nat.le_of_eq rfl) (hb hby d_prog_25_11_38) (by decide) (by decide) fun T7 H8 => ?_
      show Go p e below _ T7 (mkF m 41 #[.val (.ref a1), .val (.int (Int32.ofNat i1)), .val (.int (Int32.ofNat j1))] [(.int ((cs).getD (j1 - 1) 0))])
      refine own_staticW H8 hx (y := (⟨"com/example/brokerward/brokerward/http/RequestHead", "isBlank", "(C)Z"⟩ : MethodName)) hown (ow hw 93 rfl) (ow hw 94 rfl) (ow hw 35 rfl) (ow hw 95 rfl) (by decide) (W := 0) (rm_isb l Z a0 hw hE ((cs).getD (j1 - 1) 0) h0 H8.old ) (fun _ hq => nomatch hq) (by decide) (by decide) rfl (by rw [hml]; rfl) (argsL := [(.int ((cs).getD (j1 - 1) 0))]) (rest := []) rfl (lenOf pd_11 rfl) rfl (by show 2 * 0 + _ ≤ _; exact Nat.le_of_eq rfl) (hb hby d_prog_25_11_41) (by decide) (by decide) fun T9 h11 v13 H10 hs14 q12 => ?_
      obtain ⟨ve16, e15⟩ := q12
      subst e15
      subst ve16
      show Go p e below _ T9 (mkF m 44 #[.val (.ref a1), .val (.int (Int32.ofNat i1)), .val (.int (Int32.ofNat j1))] [(.int (if own_bl ((cs).getD (j1 - 1) 0) then 1 else 0))])
      by_cases hq17 : own_bl ((cs).getD (j1 - 1) 0) = true
      · skip
        rw [if_pos hq17]
        show Go p e below _ T9 (mkF m 44 #[.val (.ref a1), .val (.int (Int32.ofNat i1)), .val (.int (Int32.ofNat j1))] [(.int (1 : Int32))])
        refine Go.of (fun _ => XS.ifNo H10.here hx rfl (hb hby d_prog_25_11_44) rfl ((if0 _ _).trans (feq (by decide : ¬ ((1 : Int32) = (0 : Int32)))).1)) ?_
        show Go p e below _ T9 (mkF m 47 #[.val (.ref a1), .val (.int (Int32.ofNat i1)), .val (.int (Int32.ofNat j1))] [])
        refine Go.of (fun _ => XS.iinc H10.here hx rfl (hb hby d_prog_25_11_47) rfl (l' := #[.val (.ref a1), .val (.int (Int32.ofNat i1)), .val (.int ((Int32.ofNat j1) + (-1 : Int32)))]) rfl) ?_
        show Go p e below _ T9 (mkF m 50 #[.val (.ref a1), .val (.int (Int32.ofNat i1)), .val (.int ((Int32.ofNat j1) + (-1 : Int32)))] [])
        refine Go.of (fun _ => XS.goto H10.here hx rfl (pc0 := 50) (pc' := 29) rfl (hb hby d_prog_25_11_50) (by decide) (by decide)) ?_
        show Go p e below _ T9 (mkF m 29 #[.val (.ref a1), .val (.int (Int32.ofNat i1)), .val (.int ((Int32.ofNat j1) + (-1 : Int32)))] [])
        rw [own_onm1 (by omega) (by omega)]
        exact ih i1 (j1 - 1) T9 (by omega) (by omega) (own_tr_step (by omega) hjl hq17 htr) H10
      · skip
        rw [if_neg hq17]
        show Go p e below _ T9 (mkF m 44 #[.val (.ref a1), .val (.int (Int32.ofNat i1)), .val (.int (Int32.ofNat j1))] [(.int (0 : Int32))])
        refine Go.of (fun _ => XS.ifYes H10.here hx rfl (pc0 := 44) (pc' := 53) rfl (hb hby d_prog_25_11_44) rfl ((if0 _ _).trans (teq (by decide : (0 : Int32) = (0 : Int32))).1) (by decide) (by decide)) ?_
        show Go p e below _ T9 (mkF m 53 #[.val (.ref a1), .val (.int (Int32.ofNat i1)), .val (.int (Int32.ofNat j1))] [])
        refine Go.of (fun _ => XS.aloadN H10.here hx rfl (hb hby d_prog_25_11_53) rfl rfl) ?_
        show Go p e below _ T9 (mkF m 54 #[.val (.ref a1), .val (.int (Int32.ofNat i1)), .val (.int (Int32.ofNat j1))] [(.ref a1)])
        refine Go.of (fun _ => XS.iloadN H10.here hx rfl (hb hby d_prog_25_11_54) rfl) ?_
        show Go p e below _ T9 (mkF m 55 #[.val (.ref a1), .val (.int (Int32.ofNat i1)), .val (.int (Int32.ofNat j1))] [(.int (Int32.ofNat i1)), (.ref a1)])
        refine Go.of (fun _ => XS.iloadN H10.here hx rfl (hb hby d_prog_25_11_55) rfl) ?_
        show Go p e below _ T9 (mkF m 56 #[.val (.ref a1), .val (.int (Int32.ofNat i1)), .val (.int (Int32.ofNat j1))] [(.int (Int32.ofNat j1)), (.int (Int32.ofNat i1)), (.ref a1)])
        refine own_virtualW H10 hx (y := (⟨"java/lang/String", "substring", "(II)Ljava/lang/String;"⟩ : MethodName)) (z := (⟨"java/lang/String", "substring", "(II)Ljava/lang/String;"⟩ : MethodName)) hown (ow hw 48 rfl) (ow hw 49 rfl) (own_nf (ow hw 51 rfl) rfl) (ow hw 51 rfl) (ow hw 50 rfl) (ow hw 11 rfl) (ow hw 52 rfl) (by decide) (W := 0) (rm_sub l Z a0 hw hE a1 i1 j1 cs zc fm h0 H10.old Sx lx hp SC hzc SF hfm (by omega) (by omega)) (fun _ hq => nomatch hq) (by decide) (by decide) Sx.exa rfl (by rw [hml]; rfl) (argsL := [(.int (Int32.ofNat i1)), (.int (Int32.ofNat j1))]) (rest := []) rfl (lenOf pd_10 rfl) rfl (by show 2 * 0 + _ ≤ _; exact Nat.le_of_eq rfl) (hb hby d_prog_25_11_56) (by decide) (by decide) fun T18 h20 v22 H19 hs23 q21 => ?_
        obtain ⟨r1, rfl, KK, SS⟩ := q21
        rw [← own_tr_stop (by omega) hjl hq17 htr] at SS
        show Go p e below _ T18 (mkF m 59 #[.val (.ref a1), .val (.int (Int32.ofNat i1)), .val (.int (Int32.ofNat j1))] [(.ref r1)])
        exact own_retA H19 hx hlk hret rfl rfl (hb hby d_prog_25_11_59) ⟨r1, rfl, KK, SS⟩ (by decide) (by decide)
  have L1 : ∀ (k1 i1 : Nat) (T : State), i1 + k1 = cs.length → cs.dropWhile own_bl = (cs.drop i1).dropWhile own_bl → Wk p l e ({ frames := 5, cells := 4, slots := 12, locals := 151 } : Room) s m #[(.ref a1)] below meth c Z ELx a0 true T h0 0 0 [] → Go p e below (own_fin Z ELx true s below (fun v h => ∃ r, v = some (.ref r) ∧ Keep h0 h [] ∧ own_str Z h r (own_trim cs)) (({ frames := 5, cells := 4, slots := 12, locals := 151 } : Room)).cells (({ frames := 5, cells := 4, slots := 12, locals := 151 } : Room)).slots) T (mkF m 7 #[.val (.ref a1), .val (.int (Int32.ofNat i1)), .val (.int (Int32.ofNat (cs).length))] []) := by
    intro k1
    induction k1 with
    | zero =>
      intro i1 T hij htr H
      have hlt : ¬ Int32.ofNat i1 < (Int32.ofNat (cs).length) := by rw [own_onlt (by omega) (by omega)]; omega
      show Go p e below _ T (mkF m 7 #[.val (.ref a1), .val (.int (Int32.ofNat i1)), .val (.int (Int32.ofNat (cs).length))] [])
      refine Go.of (fun _ => XS.iloadN H.here hx rfl (hb hby d_prog_25_11_7) rfl) ?_
      show Go p e below _ T (mkF m 8 #[.val (.ref a1), .val (.int (Int32.ofNat i1)), .val (.int (Int32.ofNat (cs).length))] [(.int (Int32.ofNat i1))])
      refine Go.of (fun _ => XS.iloadN H.here hx rfl (hb hby d_prog_25_11_8) rfl) ?_
      show Go p e below _ T (mkF m 9 #[.val (.ref a1), .val (.int (Int32.ofNat i1)), .val (.int (Int32.ofNat (cs).length))] [(.int (Int32.ofNat (cs).length)), (.int (Int32.ofNat i1))])
      refine Go.of (fun _ => XS.icmpYes H.here hx rfl (pc0 := 9) (pc' := 29) rfl (hb hby d_prog_25_11_9) rfl (flt hlt).2.1 (by decide) (by decide)) ?_
      show Go p e below _ T (mkF m 29 #[.val (.ref a1), .val (.int (Int32.ofNat i1)), .val (.int (Int32.ofNat (cs).length))] [])
      exact L2 (cs.length - i1) i1 cs.length T (by omega) (Nat.le_refl _) (own_tr_start (own_dw_end (by omega) htr)) H
    | succ k1 ih =>
      intro i1 T hij htr H
      have hlt : Int32.ofNat i1 < (Int32.ofNat (cs).length) := by rw [own_onlt (by omega) (by omega)]; omega
      show Go p e below _ T (mkF m 7 #[.val (.ref a1), .val (.int (Int32.ofNat i1)), .val (.int (Int32.ofNat (cs).length))] [])
      refine Go.of (fun _ => XS.iloadN H.here hx rfl (hb hby d_prog_25_11_7) rfl) ?_
      show Go p e below _ T (mkF m 8 #[.val (.ref a1), .val (.int (Int32.ofNat i1)), .val (.int (Int32.ofNat (cs).length))] [(.int (Int32.ofNat i1))])
      refine Go.of (fun _ => XS.iloadN H.here hx rfl (hb hby d_prog_25_11_8) rfl) ?_
      show Go p e below _ T (mkF m 9 #[.val (.ref a1), .val (.int (Int32.ofNat i1)), .val (.int (Int32.ofNat (cs).length))] [(.int (Int32.ofNat (cs).length)), (.int (Int32.ofNat i1))])
      refine Go.of (fun _ => XS.icmpNo H.here hx rfl (hb hby d_prog_25_11_9) rfl (tlt hlt).2.1) ?_
      show Go p e below _ T (mkF m 12 #[.val (.ref a1), .val (.int (Int32.ofNat i1)), .val (.int (Int32.ofNat (cs).length))] [])
      refine Go.of (fun _ => XS.aloadN H.here hx rfl (hb hby d_prog_25_11_12) rfl rfl) ?_
      show Go p e below _ T (mkF m 13 #[.val (.ref a1), .val (.int (Int32.ofNat i1)), .val (.int (Int32.ofNat (cs).length))] [(.ref a1)])
      refine Go.of (fun _ => XS.iloadN H.here hx rfl (hb hby d_prog_25_11_13) rfl) ?_
      show Go p e below _ T (mkF m 14 #[.val (.ref a1), .val (.int (Int32.ofNat i1)), .val (.int (Int32.ofNat (cs).length))] [(.int (Int32.ofNat i1)), (.ref a1)])
      refine own_chS H hx hown (ow hw 73 rfl) (ow hw 74 rfl) (ow hw 76 rfl) (ow hw 75 rfl) (own_hwc hw) (ow hw 10 rfl) (i := i1) Sx (Nat.le_trans lx (by decide)) hp (by omega) rfl SC hzc SF hfm (W := 0) (by decide) (by decide) rfl (by rw [hml]; rfl) rfl (by show 2 * 0 + _ ≤ _; exact Nat.le_of_eq rfl) (hb hby d_prog_25_11_14) (by decide) (by decide) fun T24 H25 => ?_
      show Go p e below _ T24 (mkF m 17 #[.val (.ref a1), .val (.int (Int32.ofNat i1)), .val (.int (Int32.ofNat (cs).length))] [(.int ((cs).getD i1 0))])
      refine own_staticW H25 hx (y := (⟨"com/example/brokerward/brokerward/http/RequestHead", "isBlank", "(C)Z"⟩ : MethodName)) hown (ow hw 93 rfl) (ow hw 94 rfl) (ow hw 35 rfl) (ow hw 95 rfl) (by decide) (W := 0) (rm_isb l Z a0 hw hE ((cs).getD i1 0) h0 H25.old ) (fun _ hq => nomatch hq) (by decide) (by decide) rfl (by rw [hml]; rfl) (argsL := [(.int ((cs).getD i1 0))]) (rest := []) rfl (lenOf pd_11 rfl) rfl (by show 2 * 0 + _ ≤ _; exact Nat.le_of_eq rfl) (hb hby d_prog_25_11_17) (by decide) (by decide) fun T26 h28 v30 H27 hs31 q29 => ?_
      obtain ⟨ve33, e32⟩ := q29
      subst e32
      subst ve33
      show Go p e below _ T26 (mkF m 20 #[.val (.ref a1), .val (.int (Int32.ofNat i1)), .val (.int (Int32.ofNat (cs).length))] [(.int (if own_bl ((cs).getD i1 0) then 1 else 0))])
      by_cases hq34 : own_bl ((cs).getD i1 0) = true
      · skip
        rw [if_pos hq34]
        show Go p e below _ T26 (mkF m 20 #[.val (.ref a1), .val (.int (Int32.ofNat i1)), .val (.int (Int32.ofNat (cs).length))] [(.int (1 : Int32))])
        refine Go.of (fun _ => XS.ifNo H27.here hx rfl (hb hby d_prog_25_11_20) rfl ((if0 _ _).trans (feq (by decide : ¬ ((1 : Int32) = (0 : Int32)))).1)) ?_
        show Go p e below _ T26 (mkF m 23 #[.val (.ref a1), .val (.int (Int32.ofNat i1)), .val (.int (Int32.ofNat (cs).length))] [])
        refine Go.of (fun _ => XS.iinc H27.here hx rfl (hb hby d_prog_25_11_23) rfl (l' := #[.val (.ref a1), .val (.int ((Int32.ofNat i1) + (1 : Int32))), .val (.int (Int32.ofNat (cs).length))]) rfl) ?_
        show Go p e below _ T26 (mkF m 26 #[.val (.ref a1), .val (.int ((Int32.ofNat i1) + (1 : Int32))), .val (.int (Int32.ofNat (cs).length))] [])
        refine Go.of (fun _ => XS.goto H27.here hx rfl (pc0 := 26) (pc' := 7) rfl (hb hby d_prog_25_11_26) (by decide) (by decide)) ?_
        show Go p e below _ T26 (mkF m 7 #[.val (.ref a1), .val (.int ((Int32.ofNat i1) + (1 : Int32))), .val (.int (Int32.ofNat (cs).length))] [])
        rw [show Int32.ofNat i1 + (1 : Int32) = Int32.ofNat (i1 + 1) from own_onadd i1 1]
        exact ih (i1 + 1) T26 (by omega) (own_dw_step (by omega) hq34 htr) H27
      · skip
        rw [if_neg hq34]
        show Go p e below _ T26 (mkF m 20 #[.val (.ref a1), .val (.int (Int32.ofNat i1)), .val (.int (Int32.ofNat (cs).length))] [(.int (0 : Int32))])
        refine Go.of (fun _ => XS.ifYes H27.here hx rfl (pc0 := 20) (pc' := 29) rfl (hb hby d_prog_25_11_20) rfl ((if0 _ _).trans (teq (by decide : (0 : Int32) = (0 : Int32))).1) (by decide) (by decide)) ?_
        show Go p e below _ T26 (mkF m 29 #[.val (.ref a1), .val (.int (Int32.ofNat i1)), .val (.int (Int32.ofNat (cs).length))] [])
        exact L2 (cs.length - i1) i1 cs.length T26 (by omega) (Nat.le_refl _) (own_tr_start (own_dw_stop (by omega) hq34 htr)) H27
  show Go p e below _ s₁ (mkF m 0 #[.val (.ref a1), .unset, .unset] [])
  refine Go.of (fun _ => XS.iconst H0.here hx rfl (hb hby d_prog_25_11_0)) ?_
  show Go p e below _ s₁ (mkF m 1 #[.val (.ref a1), .unset, .unset] [(.int (0 : Int32))])
  refine Go.of (fun _ => XS.istoreN H0.here hx rfl (hb hby d_prog_25_11_1) rfl (l' := #[.val (.ref a1), .val (.int (0 : Int32)), .unset]) rfl) ?_
  show Go p e below _ s₁ (mkF m 2 #[.val (.ref a1), .val (.int (0 : Int32)), .unset] [])
  refine Go.of (fun _ => XS.aloadN H0.here hx rfl (hb hby d_prog_25_11_2) rfl rfl) ?_
  show Go p e below _ s₁ (mkF m 3 #[.val (.ref a1), .val (.int (0 : Int32)), .unset] [(.ref a1)])
  refine own_lenS H0 hx hown (ow hw 37 rfl) (ow hw 38 rfl) (ow hw 40 rfl) (ow hw 39 rfl) (own_hwl hw) (ow hw 10 rfl) Sx (Nat.le_trans lx (by decide)) SC hzc (W := 0) (by decide) (by decide) rfl (by rw [hml]; rfl) rfl (by show 2 * 0 + _ ≤ _; exact Nat.le_of_eq rfl) (hb hby d_prog_25_11_3) (by decide) (by decide) fun T35 H36 => ?_
  show Go p e below _ T35 (mkF m 6 #[.val (.ref a1), .val (.int (0 : Int32)), .unset] [(.int (Int32.ofNat (cs).length))])
  refine Go.of (fun _ => XS.istoreN H36.here hx rfl (hb hby d_prog_25_11_6) rfl (l' := #[.val (.ref a1), .val (.int (0 : Int32)), .val (.int (Int32.ofNat (cs).length))]) rfl) ?_
  show Go p e below _ T35 (mkF m 7 #[.val (.ref a1), .val (.int (0 : Int32)), .val (.int (Int32.ofNat (cs).length))] [])
  exact L1 cs.length 0 T35 (Nat.zero_add _) (by simp) H36
set_option maxRecDepth 65536 in
set_option maxHeartbeats 40000000 in
theorem rm_law (l : Launch) (Z : State) (a0 : Array Value) (hw : ∀ d ∈ tables_1, d.before a0 Z = true) (hE : EW Z a0 ELx) (p0 : Int32) (p1 : Int32) (p2 : Int32) (p3 : Int32) (p4 : Int32) (zc : Int32) (fm : Value) (h0 : Heap) (O0 : Ext Z.heap h0) (SC : Sta Z Z.heap "java/lang/String" "COMPACT_STRINGS" "Z" (.int zc)) (hzc : ¬ zc = 0) (SF : Sta Z Z.heap "jdk/internal/util/Preconditions" "SIOOBE_FORMATTER" "Ljava/util/function/BiFunction;" fm) (hfm : fm.isRef = true) :
    Ct l Z ELx a0 true x code maxLocals ret tables_1 room_1 #[(.int p0), (.int p1), (.int p2), (.int p3), (.int p4)] h0 [] (fun v h => v = some (.int 1)) := by
  refine own_enter (plainFor_of_name pn_1) hE O0 ?_
  intro p e s m below meth c s₁ hx hby hml hown hnm hret hlk H0
  have hml : c.maxLocals = 13 := hml
  have hret : meth.sig.returnType = (some .boolean) := hret
  refine Go.eq (ef_rm_law m p0 p1 p2 p3 p4) ?_
  have hst := own_hst hw
  have J42_1 : ∀ (T2 : State) (h3 : Heap) (b1 : Addr) (kA : ClassId) (c0 : Int32) (c1 : Int32) (c2 : Int32) (c3 : Int32) (n1 : Int32), (Wk p l e room_1 s m #[(.int p0), (.int p1), (.int p2), (.int p3), (.int p4)] below meth c Z ELx a0 true T2 h3 1 4 []) → (Arv Z h3 b1 kA .char (4 : Int32) [.int c0, .int c1, .int c2, .int c3] (.int (0 : Int32))) → (¬ n1 < 0 ∧ n1 < 5) → (¬ c0 < 0 ∧ ¬ (255 : Int32) < c0) → (¬ c1 < 0 ∧ ¬ (255 : Int32) < c1) → (¬ c2 < 0 ∧ ¬ (255 : Int32) < c2) → (¬ c3 < 0 ∧ ¬ (255 : Int32) < c3) → Go p e below (own_fin Z ELx true s below (fun v h => v = some (.int 1)) (room_1).cells (room_1).slots) T2 (mkF m 42 #[.val (.int p0), .val (.int p1), .val (.int p2), .val (.int p3), .val (.int p4), .val (.int n1), .val (.ref b1), .unset, .unset, .unset, .unset, .unset, .unset] []) := by
    intro T2 h3 b1 kA c0 c1 c2 c3 n1 H4 V0 hn1 hc0 hc1 hc2 hc3
    show Go p e below _ T2 (mkF m 42 #[.val (.int p0), .val (.int p1), .val (.int p2), .val (.int p3), .val (.int p4), .val (.int n1), .val (.ref b1), .unset, .unset, .unset, .unset, .unset, .unset] [])
    refine Go.of (fun _ => XS.aload H4.here hx rfl (hb hby at_42) rfl rfl) ?_
    show Go p e below _ T2 (mkF m 44 #[.val (.int p0), .val (.int p1), .val (.int p2), .val (.int p3), .val (.int p4), .val (.int n1), .val (.ref b1), .unset, .unset, .unset, .unset, .unset, .unset] [(.ref b1)])
    refine Go.of (fun _ => XS.iload H4.here hx rfl (hb hby at_44) rfl) ?_
    show Go p e below _ T2 (mkF m 46 #[.val (.int p0), .val (.int p1), .val (.int p2), .val (.int p3), .val (.int p4), .val (.int n1), .val (.ref b1), .unset, .unset, .unset, .unset, .unset, .unset] [(.int n1), (.ref b1)])
    refine own_staticW H4 hx (y := (⟨"com/example/brokerward/brokerward/http/RequestHeadTrimPinLaw", "make", "([CI)Ljava/lang/String;"⟩ : MethodName)) hown (ow hw 6 rfl) (ow hw 7 rfl) (ow hw 4 rfl) (ow hw 8 rfl) (by decide) (W := 0) (rm_make l Z a0 hw hE b1 kA c0 c1 c2 c3 n1 zc h3 H4.old V0 hc0 hc1 hc2 hc3 SC hzc) (fun _ hq => nomatch hq) (by decide) (by decide) rfl (by rw [hml]; rfl) (argsL := [(.ref b1), (.int n1)]) (rest := []) rfl (lenOf pd_12 rfl) rfl (by show 2 * 0 + _ ≤ _; exact Nat.le_of_eq rfl) (hb hby at_46) (by decide) (by decide) fun T5 h7 v9 H6 hs10 q8 => ?_
    obtain ⟨tx, rfl, KM, zM, SM⟩ := q8
    have f11 := V0.keep KM nin0
    show Go p e below _ T5 (mkF m 49 #[.val (.int p0), .val (.int p1), .val (.int p2), .val (.int p3), .val (.int p4), .val (.int n1), .val (.ref b1), .unset, .unset, .unset, .unset, .unset, .unset] [(.ref tx)])
    refine Go.of (fun _ => XS.astore H6.here hx rfl (hb hby at_49) rfl rfl (l' := #[.val (.int p0), .val (.int p1), .val (.int p2), .val (.int p3), .val (.int p4), .val (.int n1), .val (.ref b1), .val (.ref tx), .unset, .unset, .unset, .unset, .unset]) rfl) ?_
    show Go p e below _ T5 (mkF m 51 #[.val (.int p0), .val (.int p1), .val (.int p2), .val (.int p3), .val (.int p4), .val (.int n1), .val (.ref b1), .val (.ref tx), .unset, .unset, .unset, .unset, .unset] [])
    have J195_12 : ∀ (T13 : State) (h14 : Heap) (sg : Int32) (eg : Int32), (Wk p l e room_1 s m #[(.int p0), (.int p1), (.int p2), (.int p3), (.int p4)] below meth c Z ELx a0 true T13 h14 7 18 []) → (Arv Z h14 b1 kA .char (4 : Int32) [.int c0, .int c1, .int c2, .int c3] (.int (0 : Int32))) → (own_str Z h14 tx (own_tk n1 c0 c1 c2 c3)) → (sg = own_sta n1 c0 c1 c2 c3) → (eg = own_ege n1 c0 c1 c2 c3 sg) → Go p e below (own_fin Z ELx true s below (fun v h => v = some (.int 1)) (room_1).cells (room_1).slots) T13 (mkF m 195 #[.val (.int p0), .val (.int p1), .val (.int p2), .val (.int p3), .val (.int p4), .val (.int n1), .val (.ref b1), .val (.ref tx), .val (.int sg), .val (.int eg), .unset, .unset, .unset] []) := by
      intro T13 h14 sg eg H15 V0 SM hsg heg
      show Go p e below _ T13 (mkF m 195 #[.val (.int p0), .val (.int p1), .val (.int p2), .val (.int p3), .val (.int p4), .val (.int n1), .val (.ref b1), .val (.ref tx), .val (.int sg), .val (.int eg), .unset, .unset, .unset] [])
      refine Go.of (fun _ => XS.aload H15.here hx rfl (hb hby at_195) rfl rfl) ?_
      show Go p e below _ T13 (mkF m 197 #[.val (.int p0), .val (.int p1), .val (.int p2), .val (.int p3), .val (.int p4), .val (.int n1), .val (.ref b1), .val (.ref tx), .val (.int sg), .val (.int eg), .unset, .unset, .unset] [(.ref tx)])
      refine own_staticW H15 hx (y := (⟨"com/example/brokerward/brokerward/http/RequestHead", "trim", "(Ljava/lang/String;)Ljava/lang/String;"⟩ : MethodName)) hown (ow hw 33 rfl) (ow hw 34 rfl) (ow hw 35 rfl) (ow hw 36 rfl) (by decide) (W := 0) (rm_trim l Z a0 hw hE tx (own_tk n1 c0 c1 c2 c3) zc fm h14 H15.old SM (own_tklen _ _ _ _ _) (own_tkrng hc0 hc1 hc2 hc3) SC hzc SF hfm) (fun _ hq => nomatch hq) (by decide) (by decide) rfl (by rw [hml]; rfl) (argsL := [(.ref tx)]) (rest := []) rfl (lenOf pd_13 rfl) rfl (by show 2 * 0 + _ ≤ _; exact Nat.le_of_eq rfl) (hb hby at_197) (by decide) (by decide) fun T16 h18 v20 H17 hs21 q19 => ?_
      obtain ⟨rr, rfl, KT, ST1⟩ := q19
      have f22 := V0.keep KT nin0
      obtain ⟨sN, eN, es, ee, hse, he4, htr⟩ := own_law (c0 := c0) (c1 := c1) (c2 := c2) (c3 := c3) hn1
      rw [← hsg] at es ee
      rw [← heg] at ee
      rw [htr] at ST1
      have hT : ∀ c ∈ ((([c0, c1, c2, c3] : List Int32).drop sN).take (eN - sN)), ¬ c < 0 ∧ ¬ (255 : Int32) < c := own_trange (allC hc0 (allC hc1 (allC hc2 (allC hc3 all0c)))) _ _
      have hTl : ((([c0, c1, c2, c3] : List Int32).drop sN).take (eN - sN)).length = eN - sN := by simp; omega
      have hes : eg - sg = Int32.ofNat (eN - sN) := by rw [es, ee]; exact own_onsub hse (by omega)
      show Go p e below _ T16 (mkF m 200 #[.val (.int p0), .val (.int p1), .val (.int p2), .val (.int p3), .val (.int p4), .val (.int n1), .val (.ref b1), .val (.ref tx), .val (.int sg), .val (.int eg), .unset, .unset, .unset] [(.ref rr)])
      refine Go.of (fun _ => XS.astore H17.here hx rfl (hb hby at_200) rfl rfl (l' := #[.val (.int p0), .val (.int p1), .val (.int p2), .val (.int p3), .val (.int p4), .val (.int n1), .val (.ref b1), .val (.ref tx), .val (.int sg), .val (.int eg), .val (.ref rr), .unset, .unset]) rfl) ?_
      show Go p e below _ T16 (mkF m 202 #[.val (.int p0), .val (.int p1), .val (.int p2), .val (.int p3), .val (.int p4), .val (.int n1), .val (.ref b1), .val (.ref tx), .val (.int sg), .val (.int eg), .val (.ref rr), .unset, .unset] [])
      refine Go.of (fun _ => XS.iload H17.here hx rfl (hb hby at_202) rfl) ?_
      show Go p e below _ T16 (mkF m 204 #[.val (.int p0), .val (.int p1), .val (.int p2), .val (.int p3), .val (.int p4), .val (.int n1), .val (.ref b1), .val (.ref tx), .val (.int sg), .val (.int eg), .val (.ref rr), .unset, .unset] [(.int eg)])
      refine Go.of (fun _ => XS.iload H17.here hx rfl (hb hby at_204) rfl) ?_
      show Go p e below _ T16 (mkF m 206 #[.val (.int p0), .val (.int p1), .val (.int p2), .val (.int p3), .val (.int p4), .val (.int n1), .val (.ref b1), .val (.ref tx), .val (.int sg), .val (.int eg), .val (.ref rr), .unset, .unset] [(.int sg), (.int eg)])
      refine Go.of (fun _ => XS.isub H17.here hx rfl (hb hby at_206) rfl) ?_
      show Go p e below _ T16 (mkF m 207 #[.val (.int p0), .val (.int p1), .val (.int p2), .val (.int p3), .val (.int p4), .val (.int n1), .val (.ref b1), .val (.ref tx), .val (.int sg), .val (.int eg), .val (.ref rr), .unset, .unset] [(.int (eg - sg))])
      refine Go.of (fun _ => XS.istore H17.here hx rfl (hb hby at_207) rfl (l' := #[.val (.int p0), .val (.int p1), .val (.int p2), .val (.int p3), .val (.int p4), .val (.int n1), .val (.ref b1), .val (.ref tx), .val (.int sg), .val (.int eg), .val (.ref rr), .val (.int (eg - sg)), .unset]) rfl) ?_
      show Go p e below _ T16 (mkF m 209 #[.val (.int p0), .val (.int p1), .val (.int p2), .val (.int p3), .val (.int p4), .val (.int n1), .val (.ref b1), .val (.ref tx), .val (.int sg), .val (.int eg), .val (.ref rr), .val (.int (eg - sg)), .unset] [])
      refine Go.of (fun _ => XS.aload H17.here hx rfl (hb hby at_209) rfl rfl) ?_
      show Go p e below _ T16 (mkF m 211 #[.val (.int p0), .val (.int p1), .val (.int p2), .val (.int p3), .val (.int p4), .val (.int n1), .val (.ref b1), .val (.ref tx), .val (.int sg), .val (.int eg), .val (.ref rr), .val (.int (eg - sg)), .unset] [(.ref rr)])
      refine own_lenS H17 hx hown (ow hw 62 rfl) (ow hw 38 rfl) (ow hw 40 rfl) (ow hw 39 rfl) (own_hwl hw) (ow hw 10 rfl) ST1 (by rw [hTl]; omega) SC hzc (W := 0) (by decide) (by decide) rfl (by rw [hml]; rfl) rfl (by show 2 * 0 + _ ≤ _; exact Nat.le_of_eq rfl) (hb hby at_211) (by decide) (by decide) fun T23 H24 => ?_
      show Go p e below _ T23 (mkF m 214 #[.val (.int p0), .val (.int p1), .val (.int p2), .val (.int p3), .val (.int p4), .val (.int n1), .val (.ref b1), .val (.ref tx), .val (.int sg), .val (.int eg), .val (.ref rr), .val (.int (eg - sg)), .unset] [(.int (Int32.ofNat (((([c0, c1, c2, c3] : List Int32).drop sN).take (eN - sN))).length))])
      refine Go.of (fun _ => XS.iload H24.here hx rfl (hb hby at_214) rfl) ?_
      show Go p e below _ T23 (mkF m 216 #[.val (.int p0), .val (.int p1), .val (.int p2), .val (.int p3), .val (.int p4), .val (.int n1), .val (.ref b1), .val (.ref tx), .val (.int sg), .val (.int eg), .val (.ref rr), .val (.int (eg - sg)), .unset] [(.int (eg - sg)), (.int (Int32.ofNat (((([c0, c1, c2, c3] : List Int32).drop sN).take (eN - sN))).length))])
      refine Go.of (fun _ => XS.icmpYes H24.here hx rfl (pc0 := 216) (pc' := 221) rfl (hb hby at_216) rfl (teq (by rw [hTl, hes])).1 (by decide) (by decide)) ?_
      show Go p e below _ T23 (mkF m 221 #[.val (.int p0), .val (.int p1), .val (.int p2), .val (.int p3), .val (.int p4), .val (.int n1), .val (.ref b1), .val (.ref tx), .val (.int sg), .val (.int eg), .val (.ref rr), .val (.int (eg - sg)), .unset] [])
      refine Go.of (fun _ => XS.iconst H24.here hx rfl (hb hby at_221)) ?_
      show Go p e below _ T23 (mkF m 222 #[.val (.int p0), .val (.int p1), .val (.int p2), .val (.int p3), .val (.int p4), .val (.int n1), .val (.ref b1), .val (.ref tx), .val (.int sg), .val (.int eg), .val (.ref rr), .val (.int (eg - sg)), .unset] [(.int (1 : Int32))])
      refine Go.of (fun _ => XS.istore H24.here hx rfl (hb hby at_222) rfl (l' := #[.val (.int p0), .val (.int p1), .val (.int p2), .val (.int p3), .val (.int p4), .val (.int n1), .val (.ref b1), .val (.ref tx), .val (.int sg), .val (.int eg), .val (.ref rr), .val (.int (eg - sg)), .val (.int (1 : Int32))]) rfl) ?_
      show Go p e below _ T23 (mkF m 224 #[.val (.int p0), .val (.int p1), .val (.int p2), .val (.int p3), .val (.int p4), .val (.int n1), .val (.ref b1), .val (.ref tx), .val (.int sg), .val (.int eg), .val (.ref rr), .val (.int (eg - sg)), .val (.int (1 : Int32))] [])
      refine Go.of (fun _ => XS.iload H24.here hx rfl (hb hby at_224) rfl) ?_
      show Go p e below _ T23 (mkF m 226 #[.val (.int p0), .val (.int p1), .val (.int p2), .val (.int p3), .val (.int p4), .val (.int n1), .val (.ref b1), .val (.ref tx), .val (.int sg), .val (.int eg), .val (.ref rr), .val (.int (eg - sg)), .val (.int (1 : Int32))] [(.int (eg - sg))])
      by_cases hbr25 : (0 : Int32) < (eg - sg)
      · skip
        refine Go.of (fun _ => XS.ifNo H24.here hx rfl (hb hby at_226) rfl ((if0 _ _).trans (tlt hbr25).2.2.2)) ?_
        show Go p e below _ T23 (mkF m 229 #[.val (.int p0), .val (.int p1), .val (.int p2), .val (.int p3), .val (.int p4), .val (.int n1), .val (.ref b1), .val (.ref tx), .val (.int sg), .val (.int eg), .val (.ref rr), .val (.int (eg - sg)), .val (.int (1 : Int32))] [])
        refine Go.of (fun _ => XS.iload H24.here hx rfl (hb hby at_229) rfl) ?_
        show Go p e below _ T23 (mkF m 231 #[.val (.int p0), .val (.int p1), .val (.int p2), .val (.int p3), .val (.int p4), .val (.int n1), .val (.ref b1), .val (.ref tx), .val (.int sg), .val (.int eg), .val (.ref rr), .val (.int (eg - sg)), .val (.int (1 : Int32))] [(.int (1 : Int32))])
        refine Go.of (fun _ => XS.ifNo H24.here hx rfl (hb hby at_231) rfl ((if0 _ _).trans (feq (by decide : ¬ ((1 : Int32) = (0 : Int32)))).1)) ?_
        show Go p e below _ T23 (mkF m 234 #[.val (.int p0), .val (.int p1), .val (.int p2), .val (.int p3), .val (.int p4), .val (.int n1), .val (.ref b1), .val (.ref tx), .val (.int sg), .val (.int eg), .val (.ref rr), .val (.int (eg - sg)), .val (.int (1 : Int32))] [])
        refine Go.of (fun _ => XS.aload H24.here hx rfl (hb hby at_234) rfl rfl) ?_
        show Go p e below _ T23 (mkF m 236 #[.val (.int p0), .val (.int p1), .val (.int p2), .val (.int p3), .val (.int p4), .val (.int n1), .val (.ref b1), .val (.ref tx), .val (.int sg), .val (.int eg), .val (.ref rr), .val (.int (eg - sg)), .val (.int (1 : Int32))] [(.ref rr)])
        refine Go.of (fun _ => XS.iconst H24.here hx rfl (hb hby at_236)) ?_
        show Go p e below _ T23 (mkF m 237 #[.val (.int p0), .val (.int p1), .val (.int p2), .val (.int p3), .val (.int p4), .val (.int n1), .val (.ref b1), .val (.ref tx), .val (.int sg), .val (.int eg), .val (.ref rr), .val (.int (eg - sg)), .val (.int (1 : Int32))] [(.int (0 : Int32)), (.ref rr)])
        have hi0 : 0 < eN - sN := (own_onlt (by decide) (by omega)).mp (hes ▸ hbr25)
        refine own_chS H24 hx hown (ow hw 121 rfl) (ow hw 74 rfl) (ow hw 76 rfl) (ow hw 75 rfl) (own_hwc hw) (ow hw 10 rfl) (i := 0) ST1 (by rw [hTl]; omega) hT (by rw [hTl]; exact hi0) rfl SC hzc SF hfm (W := 0) (by decide) (by decide) rfl (by rw [hml]; rfl) rfl (by show 2 * 0 + _ ≤ _; exact Nat.le_of_eq rfl) (hb hby at_237) (by decide) (by decide) fun T26 H27 => ?_
        show Go p e below _ T26 (mkF m 240 #[.val (.int p0), .val (.int p1), .val (.int p2), .val (.int p3), .val (.int p4), .val (.int n1), .val (.ref b1), .val (.ref tx), .val (.int sg), .val (.int eg), .val (.ref rr), .val (.int (eg - sg)), .val (.int (1 : Int32))] [(.int ((((([c0, c1, c2, c3] : List Int32).drop sN).take (eN - sN))).getD 0 0))])
        refine Go.of (fun _ => XS.aload H27.here hx rfl (hb hby at_240) rfl rfl) ?_
        show Go p e below _ T26 (mkF m 242 #[.val (.int p0), .val (.int p1), .val (.int p2), .val (.int p3), .val (.int p4), .val (.int n1), .val (.ref b1), .val (.ref tx), .val (.int sg), .val (.int eg), .val (.ref rr), .val (.int (eg - sg)), .val (.int (1 : Int32))] [(.ref b1), (.int ((((([c0, c1, c2, c3] : List Int32).drop sN).take (eN - sN))).getD 0 0))])
        refine Go.of (fun _ => XS.iload H27.here hx rfl (hb hby at_242) rfl) ?_
        show Go p e below _ T26 (mkF m 244 #[.val (.int p0), .val (.int p1), .val (.int p2), .val (.int p3), .val (.int p4), .val (.int n1), .val (.ref b1), .val (.ref tx), .val (.int sg), .val (.int eg), .val (.ref rr), .val (.int (eg - sg)), .val (.int (1 : Int32))] [(.int sg), (.ref b1), (.int ((((([c0, c1, c2, c3] : List Int32).drop sN).take (eN - sN))).getD 0 0))])
        have hx0 : sg = Int32.ofNat (sN + 0) := es
        refine own_caload H27 hx f22 (by rw [hx0]; exact ⟨own_on0 (by omega), (own_onlt (b := 4) (by omega) (by decide)).mpr (by omega)⟩) (v := (.int ((((([c0, c1, c2, c3] : List Int32).drop sN).take (eN - sN))).getD 0 0))) (by rw [hx0, own_onc (by omega)]; exact own_at4 hi0) rfl rfl (hb hby at_244) ?_
        show Go p e below _ T26 (mkF m 245 #[.val (.int p0), .val (.int p1), .val (.int p2), .val (.int p3), .val (.int p4), .val (.int n1), .val (.ref b1), .val (.ref tx), .val (.int sg), .val (.int eg), .val (.ref rr), .val (.int (eg - sg)), .val (.int (1 : Int32))] [(.int ((((([c0, c1, c2, c3] : List Int32).drop sN).take (eN - sN))).getD 0 0)), (.int ((((([c0, c1, c2, c3] : List Int32).drop sN).take (eN - sN))).getD 0 0))])
        refine Go.of (fun _ => XS.icmpNo H27.here hx rfl (hb hby at_245) rfl (teq rfl).2) ?_
        show Go p e below _ T26 (mkF m 248 #[.val (.int p0), .val (.int p1), .val (.int p2), .val (.int p3), .val (.int p4), .val (.int n1), .val (.ref b1), .val (.ref tx), .val (.int sg), .val (.int eg), .val (.ref rr), .val (.int (eg - sg)), .val (.int (1 : Int32))] [])
        refine Go.of (fun _ => XS.iconst H27.here hx rfl (hb hby at_248)) ?_
        show Go p e below _ T26 (mkF m 249 #[.val (.int p0), .val (.int p1), .val (.int p2), .val (.int p3), .val (.int p4), .val (.int n1), .val (.ref b1), .val (.ref tx), .val (.int sg), .val (.int eg), .val (.ref rr), .val (.int (eg - sg)), .val (.int (1 : Int32))] [(.int (1 : Int32))])
        refine Go.of (fun _ => XS.goto H27.here hx rfl (pc0 := 249) (pc' := 253) rfl (hb hby at_249) (by decide) (by decide)) ?_
        show Go p e below _ T26 (mkF m 253 #[.val (.int p0), .val (.int p1), .val (.int p2), .val (.int p3), .val (.int p4), .val (.int n1), .val (.ref b1), .val (.ref tx), .val (.int sg), .val (.int eg), .val (.ref rr), .val (.int (eg - sg)), .val (.int (1 : Int32))] [(.int (1 : Int32))])
        refine Go.of (fun _ => XS.istore H27.here hx rfl (hb hby at_253) rfl (l' := #[.val (.int p0), .val (.int p1), .val (.int p2), .val (.int p3), .val (.int p4), .val (.int n1), .val (.ref b1), .val (.ref tx), .val (.int sg), .val (.int eg), .val (.ref rr), .val (.int (eg - sg)), .val (.int (1 : Int32))]) rfl) ?_
        show Go p e below _ T26 (mkF m 255 #[.val (.int p0), .val (.int p1), .val (.int p2), .val (.int p3), .val (.int p4), .val (.int n1), .val (.ref b1), .val (.ref tx), .val (.int sg), .val (.int eg), .val (.ref rr), .val (.int (eg - sg)), .val (.int (1 : Int32))] [])
        refine Go.of (fun _ => XS.iload H27.here hx rfl (hb hby at_255) rfl) ?_
        show Go p e below _ T26 (mkF m 257 #[.val (.int p0), .val (.int p1), .val (.int p2), .val (.int p3), .val (.int p4), .val (.int n1), .val (.ref b1), .val (.ref tx), .val (.int sg), .val (.int eg), .val (.ref rr), .val (.int (eg - sg)), .val (.int (1 : Int32))] [(.int (eg - sg))])
        refine Go.of (fun _ => XS.iconst H27.here hx rfl (hb hby at_257)) ?_
        show Go p e below _ T26 (mkF m 258 #[.val (.int p0), .val (.int p1), .val (.int p2), .val (.int p3), .val (.int p4), .val (.int n1), .val (.ref b1), .val (.ref tx), .val (.int sg), .val (.int eg), .val (.ref rr), .val (.int (eg - sg)), .val (.int (1 : Int32))] [(.int (1 : Int32)), (.int (eg - sg))])
        by_cases hbr28 : (1 : Int32) < (eg - sg)
        · skip
          refine Go.of (fun _ => XS.icmpNo H27.here hx rfl (hb hby at_258) rfl (tlt hbr28).2.2.2) ?_
          show Go p e below _ T26 (mkF m 261 #[.val (.int p0), .val (.int p1), .val (.int p2), .val (.int p3), .val (.int p4), .val (.int n1), .val (.ref b1), .val (.ref tx), .val (.int sg), .val (.int eg), .val (.ref rr), .val (.int (eg - sg)), .val (.int (1 : Int32))] [])
          refine Go.of (fun _ => XS.iload H27.here hx rfl (hb hby at_261) rfl) ?_
          show Go p e below _ T26 (mkF m 263 #[.val (.int p0), .val (.int p1), .val (.int p2), .val (.int p3), .val (.int p4), .val (.int n1), .val (.ref b1), .val (.ref tx), .val (.int sg), .val (.int eg), .val (.ref rr), .val (.int (eg - sg)), .val (.int (1 : Int32))] [(.int (1 : Int32))])
          refine Go.of (fun _ => XS.ifNo H27.here hx rfl (hb hby at_263) rfl ((if0 _ _).trans (feq (by decide : ¬ ((1 : Int32) = (0 : Int32)))).1)) ?_
          show Go p e below _ T26 (mkF m 266 #[.val (.int p0), .val (.int p1), .val (.int p2), .val (.int p3), .val (.int p4), .val (.int n1), .val (.ref b1), .val (.ref tx), .val (.int sg), .val (.int eg), .val (.ref rr), .val (.int (eg - sg)), .val (.int (1 : Int32))] [])
          refine Go.of (fun _ => XS.aload H27.here hx rfl (hb hby at_266) rfl rfl) ?_
          show Go p e below _ T26 (mkF m 268 #[.val (.int p0), .val (.int p1), .val (.int p2), .val (.int p3), .val (.int p4), .val (.int n1), .val (.ref b1), .val (.ref tx), .val (.int sg), .val (.int eg), .val (.ref rr), .val (.int (eg - sg)), .val (.int (1 : Int32))] [(.ref rr)])
          refine Go.of (fun _ => XS.iconst H27.here hx rfl (hb hby at_268)) ?_
          show Go p e below _ T26 (mkF m 269 #[.val (.int p0), .val (.int p1), .val (.int p2), .val (.int p3), .val (.int p4), .val (.int n1), .val (.ref b1), .val (.ref tx), .val (.int sg), .val (.int eg), .val (.ref rr), .val (.int (eg - sg)), .val (.int (1 : Int32))] [(.int (1 : Int32)), (.ref rr)])
          have hi1 : 1 < eN - sN := (own_onlt (by decide) (by omega)).mp (hes ▸ hbr28)
          refine own_chS H27 hx hown (ow hw 121 rfl) (ow hw 74 rfl) (ow hw 76 rfl) (ow hw 75 rfl) (own_hwc hw) (ow hw 10 rfl) (i := 1) ST1 (by rw [hTl]; omega) hT (by rw [hTl]; exact hi1) rfl SC hzc SF hfm (W := 0) (by decide) (by decide) rfl (by rw [hml]; rfl) rfl (by show 2 * 0 + _ ≤ _; exact Nat.le_of_eq rfl) (hb hby at_269) (by decide) (by decide) fun T29 H30 => ?_
          show Go p e below _ T29 (mkF m 272 #[.val (.int p0), .val (.int p1), .val (.int p2), .val (.int p3), .val (.int p4), .val (.int n1), .val (.ref b1), .val (.ref tx), .val (.int sg), .val (.int eg), .val (.ref rr), .val (.int (eg - sg)), .val (.int (1 : Int32))] [(.int ((((([c0, c1, c2, c3] : List Int32).drop sN).take (eN - sN))).getD 1 0))])
          refine Go.of (fun _ => XS.aload H30.here hx rfl (hb hby at_272) rfl rfl) ?_
          show Go p e below _ T29 (mkF m 274 #[.val (.int p0), .val (.int p1), .val (.int p2), .val (.int p3), .val (.int p4), .val (.int n1), .val (.ref b1), .val (.ref tx), .val (.int sg), .val (.int eg), .val (.ref rr), .val (.int (eg - sg)), .val (.int (1 : Int32))] [(.ref b1), (.int ((((([c0, c1, c2, c3] : List Int32).drop sN).take (eN - sN))).getD 1 0))])
          refine Go.of (fun _ => XS.iload H30.here hx rfl (hb hby at_274) rfl) ?_
          show Go p e below _ T29 (mkF m 276 #[.val (.int p0), .val (.int p1), .val (.int p2), .val (.int p3), .val (.int p4), .val (.int n1), .val (.ref b1), .val (.ref tx), .val (.int sg), .val (.int eg), .val (.ref rr), .val (.int (eg - sg)), .val (.int (1 : Int32))] [(.int sg), (.ref b1), (.int ((((([c0, c1, c2, c3] : List Int32).drop sN).take (eN - sN))).getD 1 0))])
          refine Go.of (fun _ => XS.iconst H30.here hx rfl (hb hby at_276)) ?_
          show Go p e below _ T29 (mkF m 277 #[.val (.int p0), .val (.int p1), .val (.int p2), .val (.int p3), .val (.int p4), .val (.int n1), .val (.ref b1), .val (.ref tx), .val (.int sg), .val (.int eg), .val (.ref rr), .val (.int (eg - sg)), .val (.int (1 : Int32))] [(.int (1 : Int32)), (.int sg), (.ref b1), (.int ((((([c0, c1, c2, c3] : List Int32).drop sN).take (eN - sN))).getD 1 0))])
          refine Go.of (fun _ => XS.iadd H30.here hx rfl (hb hby at_277) rfl) ?_
          show Go p e below _ T29 (mkF m 278 #[.val (.int p0), .val (.int p1), .val (.int p2), .val (.int p3), .val (.int p4), .val (.int n1), .val (.ref b1), .val (.ref tx), .val (.int sg), .val (.int eg), .val (.ref rr), .val (.int (eg - sg)), .val (.int (1 : Int32))] [(.int (sg + (1 : Int32))), (.ref b1), (.int ((((([c0, c1, c2, c3] : List Int32).drop sN).take (eN - sN))).getD 1 0))])
          have hx1 : (sg + (1 : Int32)) = Int32.ofNat (sN + 1) := by rw [es]; exact own_onadd sN 1
          refine own_caload H30 hx f22 (by rw [hx1]; exact ⟨own_on0 (by omega), (own_onlt (b := 4) (by omega) (by decide)).mpr (by omega)⟩) (v := (.int ((((([c0, c1, c2, c3] : List Int32).drop sN).take (eN - sN))).getD 1 0))) (by rw [hx1, own_onc (by omega)]; exact own_at4 hi1) rfl rfl (hb hby at_278) ?_
          show Go p e below _ T29 (mkF m 279 #[.val (.int p0), .val (.int p1), .val (.int p2), .val (.int p3), .val (.int p4), .val (.int n1), .val (.ref b1), .val (.ref tx), .val (.int sg), .val (.int eg), .val (.ref rr), .val (.int (eg - sg)), .val (.int (1 : Int32))] [(.int ((((([c0, c1, c2, c3] : List Int32).drop sN).take (eN - sN))).getD 1 0)), (.int ((((([c0, c1, c2, c3] : List Int32).drop sN).take (eN - sN))).getD 1 0))])
          refine Go.of (fun _ => XS.icmpNo H30.here hx rfl (hb hby at_279) rfl (teq rfl).2) ?_
          show Go p e below _ T29 (mkF m 282 #[.val (.int p0), .val (.int p1), .val (.int p2), .val (.int p3), .val (.int p4), .val (.int n1), .val (.ref b1), .val (.ref tx), .val (.int sg), .val (.int eg), .val (.ref rr), .val (.int (eg - sg)), .val (.int (1 : Int32))] [])
          refine Go.of (fun _ => XS.iconst H30.here hx rfl (hb hby at_282)) ?_
          show Go p e below _ T29 (mkF m 283 #[.val (.int p0), .val (.int p1), .val (.int p2), .val (.int p3), .val (.int p4), .val (.int n1), .val (.ref b1), .val (.ref tx), .val (.int sg), .val (.int eg), .val (.ref rr), .val (.int (eg - sg)), .val (.int (1 : Int32))] [(.int (1 : Int32))])
          refine Go.of (fun _ => XS.goto H30.here hx rfl (pc0 := 283) (pc' := 287) rfl (hb hby at_283) (by decide) (by decide)) ?_
          show Go p e below _ T29 (mkF m 287 #[.val (.int p0), .val (.int p1), .val (.int p2), .val (.int p3), .val (.int p4), .val (.int n1), .val (.ref b1), .val (.ref tx), .val (.int sg), .val (.int eg), .val (.ref rr), .val (.int (eg - sg)), .val (.int (1 : Int32))] [(.int (1 : Int32))])
          refine Go.of (fun _ => XS.istore H30.here hx rfl (hb hby at_287) rfl (l' := #[.val (.int p0), .val (.int p1), .val (.int p2), .val (.int p3), .val (.int p4), .val (.int n1), .val (.ref b1), .val (.ref tx), .val (.int sg), .val (.int eg), .val (.ref rr), .val (.int (eg - sg)), .val (.int (1 : Int32))]) rfl) ?_
          show Go p e below _ T29 (mkF m 289 #[.val (.int p0), .val (.int p1), .val (.int p2), .val (.int p3), .val (.int p4), .val (.int n1), .val (.ref b1), .val (.ref tx), .val (.int sg), .val (.int eg), .val (.ref rr), .val (.int (eg - sg)), .val (.int (1 : Int32))] [])
          refine Go.of (fun _ => XS.iload H30.here hx rfl (hb hby at_289) rfl) ?_
          show Go p e below _ T29 (mkF m 291 #[.val (.int p0), .val (.int p1), .val (.int p2), .val (.int p3), .val (.int p4), .val (.int n1), .val (.ref b1), .val (.ref tx), .val (.int sg), .val (.int eg), .val (.ref rr), .val (.int (eg - sg)), .val (.int (1 : Int32))] [(.int (eg - sg))])
          refine Go.of (fun _ => XS.iconst H30.here hx rfl (hb hby at_291)) ?_
          show Go p e below _ T29 (mkF m 292 #[.val (.int p0), .val (.int p1), .val (.int p2), .val (.int p3), .val (.int p4), .val (.int n1), .val (.ref b1), .val (.ref tx), .val (.int sg), .val (.int eg), .val (.ref rr), .val (.int (eg - sg)), .val (.int (1 : Int32))] [(.int (2 : Int32)), (.int (eg - sg))])
          by_cases hbr31 : (2 : Int32) < (eg - sg)
          · skip
            refine Go.of (fun _ => XS.icmpNo H30.here hx rfl (hb hby at_292) rfl (tlt hbr31).2.2.2) ?_
            show Go p e below _ T29 (mkF m 295 #[.val (.int p0), .val (.int p1), .val (.int p2), .val (.int p3), .val (.int p4), .val (.int n1), .val (.ref b1), .val (.ref tx), .val (.int sg), .val (.int eg), .val (.ref rr), .val (.int (eg - sg)), .val (.int (1 : Int32))] [])
            refine Go.of (fun _ => XS.iload H30.here hx rfl (hb hby at_295) rfl) ?_
            show Go p e below _ T29 (mkF m 297 #[.val (.int p0), .val (.int p1), .val (.int p2), .val (.int p3), .val (.int p4), .val (.int n1), .val (.ref b1), .val (.ref tx), .val (.int sg), .val (.int eg), .val (.ref rr), .val (.int (eg - sg)), .val (.int (1 : Int32))] [(.int (1 : Int32))])
            refine Go.of (fun _ => XS.ifNo H30.here hx rfl (hb hby at_297) rfl ((if0 _ _).trans (feq (by decide : ¬ ((1 : Int32) = (0 : Int32)))).1)) ?_
            show Go p e below _ T29 (mkF m 300 #[.val (.int p0), .val (.int p1), .val (.int p2), .val (.int p3), .val (.int p4), .val (.int n1), .val (.ref b1), .val (.ref tx), .val (.int sg), .val (.int eg), .val (.ref rr), .val (.int (eg - sg)), .val (.int (1 : Int32))] [])
            refine Go.of (fun _ => XS.aload H30.here hx rfl (hb hby at_300) rfl rfl) ?_
            show Go p e below _ T29 (mkF m 302 #[.val (.int p0), .val (.int p1), .val (.int p2), .val (.int p3), .val (.int p4), .val (.int n1), .val (.ref b1), .val (.ref tx), .val (.int sg), .val (.int eg), .val (.ref rr), .val (.int (eg - sg)), .val (.int (1 : Int32))] [(.ref rr)])
            refine Go.of (fun _ => XS.iconst H30.here hx rfl (hb hby at_302)) ?_
            show Go p e below _ T29 (mkF m 303 #[.val (.int p0), .val (.int p1), .val (.int p2), .val (.int p3), .val (.int p4), .val (.int n1), .val (.ref b1), .val (.ref tx), .val (.int sg), .val (.int eg), .val (.ref rr), .val (.int (eg - sg)), .val (.int (1 : Int32))] [(.int (2 : Int32)), (.ref rr)])
            have hi2 : 2 < eN - sN := (own_onlt (by decide) (by omega)).mp (hes ▸ hbr31)
            refine own_chS H30 hx hown (ow hw 121 rfl) (ow hw 74 rfl) (ow hw 76 rfl) (ow hw 75 rfl) (own_hwc hw) (ow hw 10 rfl) (i := 2) ST1 (by rw [hTl]; omega) hT (by rw [hTl]; exact hi2) rfl SC hzc SF hfm (W := 0) (by decide) (by decide) rfl (by rw [hml]; rfl) rfl (by show 2 * 0 + _ ≤ _; exact Nat.le_of_eq rfl) (hb hby at_303) (by decide) (by decide) fun T32 H33 => ?_
            show Go p e below _ T32 (mkF m 306 #[.val (.int p0), .val (.int p1), .val (.int p2), .val (.int p3), .val (.int p4), .val (.int n1), .val (.ref b1), .val (.ref tx), .val (.int sg), .val (.int eg), .val (.ref rr), .val (.int (eg - sg)), .val (.int (1 : Int32))] [(.int ((((([c0, c1, c2, c3] : List Int32).drop sN).take (eN - sN))).getD 2 0))])
            refine Go.of (fun _ => XS.aload H33.here hx rfl (hb hby at_306) rfl rfl) ?_
            show Go p e below _ T32 (mkF m 308 #[.val (.int p0), .val (.int p1), .val (.int p2), .val (.int p3), .val (.int p4), .val (.int n1), .val (.ref b1), .val (.ref tx), .val (.int sg), .val (.int eg), .val (.ref rr), .val (.int (eg - sg)), .val (.int (1 : Int32))] [(.ref b1), (.int ((((([c0, c1, c2, c3] : List Int32).drop sN).take (eN - sN))).getD 2 0))])
            refine Go.of (fun _ => XS.iload H33.here hx rfl (hb hby at_308) rfl) ?_
            show Go p e below _ T32 (mkF m 310 #[.val (.int p0), .val (.int p1), .val (.int p2), .val (.int p3), .val (.int p4), .val (.int n1), .val (.ref b1), .val (.ref tx), .val (.int sg), .val (.int eg), .val (.ref rr), .val (.int (eg - sg)), .val (.int (1 : Int32))] [(.int sg), (.ref b1), (.int ((((([c0, c1, c2, c3] : List Int32).drop sN).take (eN - sN))).getD 2 0))])
            refine Go.of (fun _ => XS.iconst H33.here hx rfl (hb hby at_310)) ?_
            show Go p e below _ T32 (mkF m 311 #[.val (.int p0), .val (.int p1), .val (.int p2), .val (.int p3), .val (.int p4), .val (.int n1), .val (.ref b1), .val (.ref tx), .val (.int sg), .val (.int eg), .val (.ref rr), .val (.int (eg - sg)), .val (.int (1 : Int32))] [(.int (2 : Int32)), (.int sg), (.ref b1), (.int ((((([c0, c1, c2, c3] : List Int32).drop sN).take (eN - sN))).getD 2 0))])
            refine Go.of (fun _ => XS.iadd H33.here hx rfl (hb hby at_311) rfl) ?_
            show Go p e below _ T32 (mkF m 312 #[.val (.int p0), .val (.int p1), .val (.int p2), .val (.int p3), .val (.int p4), .val (.int n1), .val (.ref b1), .val (.ref tx), .val (.int sg), .val (.int eg), .val (.ref rr), .val (.int (eg - sg)), .val (.int (1 : Int32))] [(.int (sg + (2 : Int32))), (.ref b1), (.int ((((([c0, c1, c2, c3] : List Int32).drop sN).take (eN - sN))).getD 2 0))])
            have hx2 : (sg + (2 : Int32)) = Int32.ofNat (sN + 2) := by rw [es]; exact own_onadd sN 2
            refine own_caload H33 hx f22 (by rw [hx2]; exact ⟨own_on0 (by omega), (own_onlt (b := 4) (by omega) (by decide)).mpr (by omega)⟩) (v := (.int ((((([c0, c1, c2, c3] : List Int32).drop sN).take (eN - sN))).getD 2 0))) (by rw [hx2, own_onc (by omega)]; exact own_at4 hi2) rfl rfl (hb hby at_312) ?_
            show Go p e below _ T32 (mkF m 313 #[.val (.int p0), .val (.int p1), .val (.int p2), .val (.int p3), .val (.int p4), .val (.int n1), .val (.ref b1), .val (.ref tx), .val (.int sg), .val (.int eg), .val (.ref rr), .val (.int (eg - sg)), .val (.int (1 : Int32))] [(.int ((((([c0, c1, c2, c3] : List Int32).drop sN).take (eN - sN))).getD 2 0)), (.int ((((([c0, c1, c2, c3] : List Int32).drop sN).take (eN - sN))).getD 2 0))])
            refine Go.of (fun _ => XS.icmpNo H33.here hx rfl (hb hby at_313) rfl (teq rfl).2) ?_
            show Go p e below _ T32 (mkF m 316 #[.val (.int p0), .val (.int p1), .val (.int p2), .val (.int p3), .val (.int p4), .val (.int n1), .val (.ref b1), .val (.ref tx), .val (.int sg), .val (.int eg), .val (.ref rr), .val (.int (eg - sg)), .val (.int (1 : Int32))] [])
            refine Go.of (fun _ => XS.iconst H33.here hx rfl (hb hby at_316)) ?_
            show Go p e below _ T32 (mkF m 317 #[.val (.int p0), .val (.int p1), .val (.int p2), .val (.int p3), .val (.int p4), .val (.int n1), .val (.ref b1), .val (.ref tx), .val (.int sg), .val (.int eg), .val (.ref rr), .val (.int (eg - sg)), .val (.int (1 : Int32))] [(.int (1 : Int32))])
            refine Go.of (fun _ => XS.goto H33.here hx rfl (pc0 := 317) (pc' := 321) rfl (hb hby at_317) (by decide) (by decide)) ?_
            show Go p e below _ T32 (mkF m 321 #[.val (.int p0), .val (.int p1), .val (.int p2), .val (.int p3), .val (.int p4), .val (.int n1), .val (.ref b1), .val (.ref tx), .val (.int sg), .val (.int eg), .val (.ref rr), .val (.int (eg - sg)), .val (.int (1 : Int32))] [(.int (1 : Int32))])
            refine Go.of (fun _ => XS.istore H33.here hx rfl (hb hby at_321) rfl (l' := #[.val (.int p0), .val (.int p1), .val (.int p2), .val (.int p3), .val (.int p4), .val (.int n1), .val (.ref b1), .val (.ref tx), .val (.int sg), .val (.int eg), .val (.ref rr), .val (.int (eg - sg)), .val (.int (1 : Int32))]) rfl) ?_
            show Go p e below _ T32 (mkF m 323 #[.val (.int p0), .val (.int p1), .val (.int p2), .val (.int p3), .val (.int p4), .val (.int n1), .val (.ref b1), .val (.ref tx), .val (.int sg), .val (.int eg), .val (.ref rr), .val (.int (eg - sg)), .val (.int (1 : Int32))] [])
            refine Go.of (fun _ => XS.iload H33.here hx rfl (hb hby at_323) rfl) ?_
            show Go p e below _ T32 (mkF m 325 #[.val (.int p0), .val (.int p1), .val (.int p2), .val (.int p3), .val (.int p4), .val (.int n1), .val (.ref b1), .val (.ref tx), .val (.int sg), .val (.int eg), .val (.ref rr), .val (.int (eg - sg)), .val (.int (1 : Int32))] [(.int (eg - sg))])
            refine Go.of (fun _ => XS.iconst H33.here hx rfl (hb hby at_325)) ?_
            show Go p e below _ T32 (mkF m 326 #[.val (.int p0), .val (.int p1), .val (.int p2), .val (.int p3), .val (.int p4), .val (.int n1), .val (.ref b1), .val (.ref tx), .val (.int sg), .val (.int eg), .val (.ref rr), .val (.int (eg - sg)), .val (.int (1 : Int32))] [(.int (3 : Int32)), (.int (eg - sg))])
            by_cases hbr34 : (3 : Int32) < (eg - sg)
            · skip
              refine Go.of (fun _ => XS.icmpNo H33.here hx rfl (hb hby at_326) rfl (tlt hbr34).2.2.2) ?_
              show Go p e below _ T32 (mkF m 329 #[.val (.int p0), .val (.int p1), .val (.int p2), .val (.int p3), .val (.int p4), .val (.int n1), .val (.ref b1), .val (.ref tx), .val (.int sg), .val (.int eg), .val (.ref rr), .val (.int (eg - sg)), .val (.int (1 : Int32))] [])
              refine Go.of (fun _ => XS.iload H33.here hx rfl (hb hby at_329) rfl) ?_
              show Go p e below _ T32 (mkF m 331 #[.val (.int p0), .val (.int p1), .val (.int p2), .val (.int p3), .val (.int p4), .val (.int n1), .val (.ref b1), .val (.ref tx), .val (.int sg), .val (.int eg), .val (.ref rr), .val (.int (eg - sg)), .val (.int (1 : Int32))] [(.int (1 : Int32))])
              refine Go.of (fun _ => XS.ifNo H33.here hx rfl (hb hby at_331) rfl ((if0 _ _).trans (feq (by decide : ¬ ((1 : Int32) = (0 : Int32)))).1)) ?_
              show Go p e below _ T32 (mkF m 334 #[.val (.int p0), .val (.int p1), .val (.int p2), .val (.int p3), .val (.int p4), .val (.int n1), .val (.ref b1), .val (.ref tx), .val (.int sg), .val (.int eg), .val (.ref rr), .val (.int (eg - sg)), .val (.int (1 : Int32))] [])
              refine Go.of (fun _ => XS.aload H33.here hx rfl (hb hby at_334) rfl rfl) ?_
              show Go p e below _ T32 (mkF m 336 #[.val (.int p0), .val (.int p1), .val (.int p2), .val (.int p3), .val (.int p4), .val (.int n1), .val (.ref b1), .val (.ref tx), .val (.int sg), .val (.int eg), .val (.ref rr), .val (.int (eg - sg)), .val (.int (1 : Int32))] [(.ref rr)])
              refine Go.of (fun _ => XS.iconst H33.here hx rfl (hb hby at_336)) ?_
              show Go p e below _ T32 (mkF m 337 #[.val (.int p0), .val (.int p1), .val (.int p2), .val (.int p3), .val (.int p4), .val (.int n1), .val (.ref b1), .val (.ref tx), .val (.int sg), .val (.int eg), .val (.ref rr), .val (.int (eg - sg)), .val (.int (1 : Int32))] [(.int (3 : Int32)), (.ref rr)])
              have hi3 : 3 < eN - sN := (own_onlt (by decide) (by omega)).mp (hes ▸ hbr34)
              refine own_chS H33 hx hown (ow hw 121 rfl) (ow hw 74 rfl) (ow hw 76 rfl) (ow hw 75 rfl) (own_hwc hw) (ow hw 10 rfl) (i := 3) ST1 (by rw [hTl]; omega) hT (by rw [hTl]; exact hi3) rfl SC hzc SF hfm (W := 0) (by decide) (by decide) rfl (by rw [hml]; rfl) rfl (by show 2 * 0 + _ ≤ _; exact Nat.le_of_eq rfl) (hb hby at_337) (by decide) (by decide) fun T35 H36 => ?_
              show Go p e below _ T35 (mkF m 340 #[.val (.int p0), .val (.int p1), .val (.int p2), .val (.int p3), .val (.int p4), .val (.int n1), .val (.ref b1), .val (.ref tx), .val (.int sg), .val (.int eg), .val (.ref rr), .val (.int (eg - sg)), .val (.int (1 : Int32))] [(.int ((((([c0, c1, c2, c3] : List Int32).drop sN).take (eN - sN))).getD 3 0))])
              refine Go.of (fun _ => XS.aload H36.here hx rfl (hb hby at_340) rfl rfl) ?_
              show Go p e below _ T35 (mkF m 342 #[.val (.int p0), .val (.int p1), .val (.int p2), .val (.int p3), .val (.int p4), .val (.int n1), .val (.ref b1), .val (.ref tx), .val (.int sg), .val (.int eg), .val (.ref rr), .val (.int (eg - sg)), .val (.int (1 : Int32))] [(.ref b1), (.int ((((([c0, c1, c2, c3] : List Int32).drop sN).take (eN - sN))).getD 3 0))])
              refine Go.of (fun _ => XS.iload H36.here hx rfl (hb hby at_342) rfl) ?_
              show Go p e below _ T35 (mkF m 344 #[.val (.int p0), .val (.int p1), .val (.int p2), .val (.int p3), .val (.int p4), .val (.int n1), .val (.ref b1), .val (.ref tx), .val (.int sg), .val (.int eg), .val (.ref rr), .val (.int (eg - sg)), .val (.int (1 : Int32))] [(.int sg), (.ref b1), (.int ((((([c0, c1, c2, c3] : List Int32).drop sN).take (eN - sN))).getD 3 0))])
              refine Go.of (fun _ => XS.iconst H36.here hx rfl (hb hby at_344)) ?_
              show Go p e below _ T35 (mkF m 345 #[.val (.int p0), .val (.int p1), .val (.int p2), .val (.int p3), .val (.int p4), .val (.int n1), .val (.ref b1), .val (.ref tx), .val (.int sg), .val (.int eg), .val (.ref rr), .val (.int (eg - sg)), .val (.int (1 : Int32))] [(.int (3 : Int32)), (.int sg), (.ref b1), (.int ((((([c0, c1, c2, c3] : List Int32).drop sN).take (eN - sN))).getD 3 0))])
              refine Go.of (fun _ => XS.iadd H36.here hx rfl (hb hby at_345) rfl) ?_
              show Go p e below _ T35 (mkF m 346 #[.val (.int p0), .val (.int p1), .val (.int p2), .val (.int p3), .val (.int p4), .val (.int n1), .val (.ref b1), .val (.ref tx), .val (.int sg), .val (.int eg), .val (.ref rr), .val (.int (eg - sg)), .val (.int (1 : Int32))] [(.int (sg + (3 : Int32))), (.ref b1), (.int ((((([c0, c1, c2, c3] : List Int32).drop sN).take (eN - sN))).getD 3 0))])
              have hx3 : (sg + (3 : Int32)) = Int32.ofNat (sN + 3) := by rw [es]; exact own_onadd sN 3
              refine own_caload H36 hx f22 (by rw [hx3]; exact ⟨own_on0 (by omega), (own_onlt (b := 4) (by omega) (by decide)).mpr (by omega)⟩) (v := (.int ((((([c0, c1, c2, c3] : List Int32).drop sN).take (eN - sN))).getD 3 0))) (by rw [hx3, own_onc (by omega)]; exact own_at4 hi3) rfl rfl (hb hby at_346) ?_
              show Go p e below _ T35 (mkF m 347 #[.val (.int p0), .val (.int p1), .val (.int p2), .val (.int p3), .val (.int p4), .val (.int n1), .val (.ref b1), .val (.ref tx), .val (.int sg), .val (.int eg), .val (.ref rr), .val (.int (eg - sg)), .val (.int (1 : Int32))] [(.int ((((([c0, c1, c2, c3] : List Int32).drop sN).take (eN - sN))).getD 3 0)), (.int ((((([c0, c1, c2, c3] : List Int32).drop sN).take (eN - sN))).getD 3 0))])
              refine Go.of (fun _ => XS.icmpNo H36.here hx rfl (hb hby at_347) rfl (teq rfl).2) ?_
              show Go p e below _ T35 (mkF m 350 #[.val (.int p0), .val (.int p1), .val (.int p2), .val (.int p3), .val (.int p4), .val (.int n1), .val (.ref b1), .val (.ref tx), .val (.int sg), .val (.int eg), .val (.ref rr), .val (.int (eg - sg)), .val (.int (1 : Int32))] [])
              refine Go.of (fun _ => XS.iconst H36.here hx rfl (hb hby at_350)) ?_
              show Go p e below _ T35 (mkF m 351 #[.val (.int p0), .val (.int p1), .val (.int p2), .val (.int p3), .val (.int p4), .val (.int n1), .val (.ref b1), .val (.ref tx), .val (.int sg), .val (.int eg), .val (.ref rr), .val (.int (eg - sg)), .val (.int (1 : Int32))] [(.int (1 : Int32))])
              refine Go.of (fun _ => XS.goto H36.here hx rfl (pc0 := 351) (pc' := 355) rfl (hb hby at_351) (by decide) (by decide)) ?_
              show Go p e below _ T35 (mkF m 355 #[.val (.int p0), .val (.int p1), .val (.int p2), .val (.int p3), .val (.int p4), .val (.int n1), .val (.ref b1), .val (.ref tx), .val (.int sg), .val (.int eg), .val (.ref rr), .val (.int (eg - sg)), .val (.int (1 : Int32))] [(.int (1 : Int32))])
              refine Go.of (fun _ => XS.istore H36.here hx rfl (hb hby at_355) rfl (l' := #[.val (.int p0), .val (.int p1), .val (.int p2), .val (.int p3), .val (.int p4), .val (.int n1), .val (.ref b1), .val (.ref tx), .val (.int sg), .val (.int eg), .val (.ref rr), .val (.int (eg - sg)), .val (.int (1 : Int32))]) rfl) ?_
              show Go p e below _ T35 (mkF m 357 #[.val (.int p0), .val (.int p1), .val (.int p2), .val (.int p3), .val (.int p4), .val (.int n1), .val (.ref b1), .val (.ref tx), .val (.int sg), .val (.int eg), .val (.ref rr), .val (.int (eg - sg)), .val (.int (1 : Int32))] [])
              refine Go.of (fun _ => XS.iload H36.here hx rfl (hb hby at_357) rfl) ?_
              show Go p e below _ T35 (mkF m 359 #[.val (.int p0), .val (.int p1), .val (.int p2), .val (.int p3), .val (.int p4), .val (.int n1), .val (.ref b1), .val (.ref tx), .val (.int sg), .val (.int eg), .val (.ref rr), .val (.int (eg - sg)), .val (.int (1 : Int32))] [(.int (1 : Int32))])
              exact own_retN H36 hx hlk (t := .boolean) hret (by simp) (hb hby at_359) rfl (by decide) (by decide)
            · skip
              refine Go.of (fun _ => XS.icmpYes H33.here hx rfl (pc0 := 326) (pc' := 357) rfl (hb hby at_326) rfl (flt hbr34).2.2.2 (by decide) (by decide)) ?_
              show Go p e below _ T32 (mkF m 357 #[.val (.int p0), .val (.int p1), .val (.int p2), .val (.int p3), .val (.int p4), .val (.int n1), .val (.ref b1), .val (.ref tx), .val (.int sg), .val (.int eg), .val (.ref rr), .val (.int (eg - sg)), .val (.int (1 : Int32))] [])
              refine Go.of (fun _ => XS.iload H33.here hx rfl (hb hby at_357) rfl) ?_
              show Go p e below _ T32 (mkF m 359 #[.val (.int p0), .val (.int p1), .val (.int p2), .val (.int p3), .val (.int p4), .val (.int n1), .val (.ref b1), .val (.ref tx), .val (.int sg), .val (.int eg), .val (.ref rr), .val (.int (eg - sg)), .val (.int (1 : Int32))] [(.int (1 : Int32))])
              exact own_retN H33 hx hlk (t := .boolean) hret (by simp) (hb hby at_359) rfl (by decide) (by decide)
          · skip
            refine Go.of (fun _ => XS.icmpYes H30.here hx rfl (pc0 := 292) (pc' := 323) rfl (hb hby at_292) rfl (flt hbr31).2.2.2 (by decide) (by decide)) ?_
            show Go p e below _ T29 (mkF m 323 #[.val (.int p0), .val (.int p1), .val (.int p2), .val (.int p3), .val (.int p4), .val (.int n1), .val (.ref b1), .val (.ref tx), .val (.int sg), .val (.int eg), .val (.ref rr), .val (.int (eg - sg)), .val (.int (1 : Int32))] [])
            refine Go.of (fun _ => XS.iload H30.here hx rfl (hb hby at_323) rfl) ?_
            show Go p e below _ T29 (mkF m 325 #[.val (.int p0), .val (.int p1), .val (.int p2), .val (.int p3), .val (.int p4), .val (.int n1), .val (.ref b1), .val (.ref tx), .val (.int sg), .val (.int eg), .val (.ref rr), .val (.int (eg - sg)), .val (.int (1 : Int32))] [(.int (eg - sg))])
            refine Go.of (fun _ => XS.iconst H30.here hx rfl (hb hby at_325)) ?_
            show Go p e below _ T29 (mkF m 326 #[.val (.int p0), .val (.int p1), .val (.int p2), .val (.int p3), .val (.int p4), .val (.int n1), .val (.ref b1), .val (.ref tx), .val (.int sg), .val (.int eg), .val (.ref rr), .val (.int (eg - sg)), .val (.int (1 : Int32))] [(.int (3 : Int32)), (.int (eg - sg))])
            by_cases hbr37 : (3 : Int32) < (eg - sg)
            · skip
              refine Go.of (fun _ => XS.icmpNo H30.here hx rfl (hb hby at_326) rfl (tlt hbr37).2.2.2) ?_
              show Go p e below _ T29 (mkF m 329 #[.val (.int p0), .val (.int p1), .val (.int p2), .val (.int p3), .val (.int p4), .val (.int n1), .val (.ref b1), .val (.ref tx), .val (.int sg), .val (.int eg), .val (.ref rr), .val (.int (eg - sg)), .val (.int (1 : Int32))] [])
              refine Go.of (fun _ => XS.iload H30.here hx rfl (hb hby at_329) rfl) ?_
              show Go p e below _ T29 (mkF m 331 #[.val (.int p0), .val (.int p1), .val (.int p2), .val (.int p3), .val (.int p4), .val (.int n1), .val (.ref b1), .val (.ref tx), .val (.int sg), .val (.int eg), .val (.ref rr), .val (.int (eg - sg)), .val (.int (1 : Int32))] [(.int (1 : Int32))])
              refine Go.of (fun _ => XS.ifNo H30.here hx rfl (hb hby at_331) rfl ((if0 _ _).trans (feq (by decide : ¬ ((1 : Int32) = (0 : Int32)))).1)) ?_
              show Go p e below _ T29 (mkF m 334 #[.val (.int p0), .val (.int p1), .val (.int p2), .val (.int p3), .val (.int p4), .val (.int n1), .val (.ref b1), .val (.ref tx), .val (.int sg), .val (.int eg), .val (.ref rr), .val (.int (eg - sg)), .val (.int (1 : Int32))] [])
              refine Go.of (fun _ => XS.aload H30.here hx rfl (hb hby at_334) rfl rfl) ?_
              show Go p e below _ T29 (mkF m 336 #[.val (.int p0), .val (.int p1), .val (.int p2), .val (.int p3), .val (.int p4), .val (.int n1), .val (.ref b1), .val (.ref tx), .val (.int sg), .val (.int eg), .val (.ref rr), .val (.int (eg - sg)), .val (.int (1 : Int32))] [(.ref rr)])
              refine Go.of (fun _ => XS.iconst H30.here hx rfl (hb hby at_336)) ?_
              show Go p e below _ T29 (mkF m 337 #[.val (.int p0), .val (.int p1), .val (.int p2), .val (.int p3), .val (.int p4), .val (.int n1), .val (.ref b1), .val (.ref tx), .val (.int sg), .val (.int eg), .val (.ref rr), .val (.int (eg - sg)), .val (.int (1 : Int32))] [(.int (3 : Int32)), (.ref rr)])
              have hi3 : 3 < eN - sN := (own_onlt (by decide) (by omega)).mp (hes ▸ hbr37)
              refine own_chS H30 hx hown (ow hw 121 rfl) (ow hw 74 rfl) (ow hw 76 rfl) (ow hw 75 rfl) (own_hwc hw) (ow hw 10 rfl) (i := 3) ST1 (by rw [hTl]; omega) hT (by rw [hTl]; exact hi3) rfl SC hzc SF hfm (W := 0) (by decide) (by decide) rfl (by rw [hml]; rfl) rfl (by show 2 * 0 + _ ≤ _; exact Nat.le_of_eq rfl) (hb hby at_337) (by decide) (by decide) fun T38 H39 => ?_
              show Go p e below _ T38 (mkF m 340 #[.val (.int p0), .val (.int p1), .val (.int p2), .val (.int p3), .val (.int p4), .val (.int n1), .val (.ref b1), .val (.ref tx), .val (.int sg), .val (.int eg), .val (.ref rr), .val (.int (eg - sg)), .val (.int (1 : Int32))] [(.int ((((([c0, c1, c2, c3] : List Int32).drop sN).take (eN - sN))).getD 3 0))])
              refine Go.of (fun _ => XS.aload H39.here hx rfl (hb hby at_340) rfl rfl) ?_
              show Go p e below _ T38 (mkF m 342 #[.val (.int p0), .val (.int p1), .val (.int p2), .val (.int p3), .val (.int p4), .val (.int n1), .val (.ref b1), .val (.ref tx), .val (.int sg), .val (.int eg), .val (.ref rr), .val (.int (eg - sg)), .val (.int (1 : Int32))] [(.ref b1), (.int ((((([c0, c1, c2, c3] : List Int32).drop sN).take (eN - sN))).getD 3 0))])
              refine Go.of (fun _ => XS.iload H39.here hx rfl (hb hby at_342) rfl) ?_
              show Go p e below _ T38 (mkF m 344 #[.val (.int p0), .val (.int p1), .val (.int p2), .val (.int p3), .val (.int p4), .val (.int n1), .val (.ref b1), .val (.ref tx), .val (.int sg), .val (.int eg), .val (.ref rr), .val (.int (eg - sg)), .val (.int (1 : Int32))] [(.int sg), (.ref b1), (.int ((((([c0, c1, c2, c3] : List Int32).drop sN).take (eN - sN))).getD 3 0))])
              refine Go.of (fun _ => XS.iconst H39.here hx rfl (hb hby at_344)) ?_
              show Go p e below _ T38 (mkF m 345 #[.val (.int p0), .val (.int p1), .val (.int p2), .val (.int p3), .val (.int p4), .val (.int n1), .val (.ref b1), .val (.ref tx), .val (.int sg), .val (.int eg), .val (.ref rr), .val (.int (eg - sg)), .val (.int (1 : Int32))] [(.int (3 : Int32)), (.int sg), (.ref b1), (.int ((((([c0, c1, c2, c3] : List Int32).drop sN).take (eN - sN))).getD 3 0))])
              refine Go.of (fun _ => XS.iadd H39.here hx rfl (hb hby at_345) rfl) ?_
              show Go p e below _ T38 (mkF m 346 #[.val (.int p0), .val (.int p1), .val (.int p2), .val (.int p3), .val (.int p4), .val (.int n1), .val (.ref b1), .val (.ref tx), .val (.int sg), .val (.int eg), .val (.ref rr), .val (.int (eg - sg)), .val (.int (1 : Int32))] [(.int (sg + (3 : Int32))), (.ref b1), (.int ((((([c0, c1, c2, c3] : List Int32).drop sN).take (eN - sN))).getD 3 0))])
              have hx3 : (sg + (3 : Int32)) = Int32.ofNat (sN + 3) := by rw [es]; exact own_onadd sN 3
              refine own_caload H39 hx f22 (by rw [hx3]; exact ⟨own_on0 (by omega), (own_onlt (b := 4) (by omega) (by decide)).mpr (by omega)⟩) (v := (.int ((((([c0, c1, c2, c3] : List Int32).drop sN).take (eN - sN))).getD 3 0))) (by rw [hx3, own_onc (by omega)]; exact own_at4 hi3) rfl rfl (hb hby at_346) ?_
              show Go p e below _ T38 (mkF m 347 #[.val (.int p0), .val (.int p1), .val (.int p2), .val (.int p3), .val (.int p4), .val (.int n1), .val (.ref b1), .val (.ref tx), .val (.int sg), .val (.int eg), .val (.ref rr), .val (.int (eg - sg)), .val (.int (1 : Int32))] [(.int ((((([c0, c1, c2, c3] : List Int32).drop sN).take (eN - sN))).getD 3 0)), (.int ((((([c0, c1, c2, c3] : List Int32).drop sN).take (eN - sN))).getD 3 0))])
              refine Go.of (fun _ => XS.icmpNo H39.here hx rfl (hb hby at_347) rfl (teq rfl).2) ?_
              show Go p e below _ T38 (mkF m 350 #[.val (.int p0), .val (.int p1), .val (.int p2), .val (.int p3), .val (.int p4), .val (.int n1), .val (.ref b1), .val (.ref tx), .val (.int sg), .val (.int eg), .val (.ref rr), .val (.int (eg - sg)), .val (.int (1 : Int32))] [])
              refine Go.of (fun _ => XS.iconst H39.here hx rfl (hb hby at_350)) ?_
              show Go p e below _ T38 (mkF m 351 #[.val (.int p0), .val (.int p1), .val (.int p2), .val (.int p3), .val (.int p4), .val (.int n1), .val (.ref b1), .val (.ref tx), .val (.int sg), .val (.int eg), .val (.ref rr), .val (.int (eg - sg)), .val (.int (1 : Int32))] [(.int (1 : Int32))])
              refine Go.of (fun _ => XS.goto H39.here hx rfl (pc0 := 351) (pc' := 355) rfl (hb hby at_351) (by decide) (by decide)) ?_
              show Go p e below _ T38 (mkF m 355 #[.val (.int p0), .val (.int p1), .val (.int p2), .val (.int p3), .val (.int p4), .val (.int n1), .val (.ref b1), .val (.ref tx), .val (.int sg), .val (.int eg), .val (.ref rr), .val (.int (eg - sg)), .val (.int (1 : Int32))] [(.int (1 : Int32))])
              refine Go.of (fun _ => XS.istore H39.here hx rfl (hb hby at_355) rfl (l' := #[.val (.int p0), .val (.int p1), .val (.int p2), .val (.int p3), .val (.int p4), .val (.int n1), .val (.ref b1), .val (.ref tx), .val (.int sg), .val (.int eg), .val (.ref rr), .val (.int (eg - sg)), .val (.int (1 : Int32))]) rfl) ?_
              show Go p e below _ T38 (mkF m 357 #[.val (.int p0), .val (.int p1), .val (.int p2), .val (.int p3), .val (.int p4), .val (.int n1), .val (.ref b1), .val (.ref tx), .val (.int sg), .val (.int eg), .val (.ref rr), .val (.int (eg - sg)), .val (.int (1 : Int32))] [])
              refine Go.of (fun _ => XS.iload H39.here hx rfl (hb hby at_357) rfl) ?_
              show Go p e below _ T38 (mkF m 359 #[.val (.int p0), .val (.int p1), .val (.int p2), .val (.int p3), .val (.int p4), .val (.int n1), .val (.ref b1), .val (.ref tx), .val (.int sg), .val (.int eg), .val (.ref rr), .val (.int (eg - sg)), .val (.int (1 : Int32))] [(.int (1 : Int32))])
              exact own_retN H39 hx hlk (t := .boolean) hret (by simp) (hb hby at_359) rfl (by decide) (by decide)
            · skip
              refine Go.of (fun _ => XS.icmpYes H30.here hx rfl (pc0 := 326) (pc' := 357) rfl (hb hby at_326) rfl (flt hbr37).2.2.2 (by decide) (by decide)) ?_
              show Go p e below _ T29 (mkF m 357 #[.val (.int p0), .val (.int p1), .val (.int p2), .val (.int p3), .val (.int p4), .val (.int n1), .val (.ref b1), .val (.ref tx), .val (.int sg), .val (.int eg), .val (.ref rr), .val (.int (eg - sg)), .val (.int (1 : Int32))] [])
              refine Go.of (fun _ => XS.iload H30.here hx rfl (hb hby at_357) rfl) ?_
              show Go p e below _ T29 (mkF m 359 #[.val (.int p0), .val (.int p1), .val (.int p2), .val (.int p3), .val (.int p4), .val (.int n1), .val (.ref b1), .val (.ref tx), .val (.int sg), .val (.int eg), .val (.ref rr), .val (.int (eg - sg)), .val (.int (1 : Int32))] [(.int (1 : Int32))])
              exact own_retN H30 hx hlk (t := .boolean) hret (by simp) (hb hby at_359) rfl (by decide) (by decide)
        · skip
          refine Go.of (fun _ => XS.icmpYes H27.here hx rfl (pc0 := 258) (pc' := 289) rfl (hb hby at_258) rfl (flt hbr28).2.2.2 (by decide) (by decide)) ?_
          show Go p e below _ T26 (mkF m 289 #[.val (.int p0), .val (.int p1), .val (.int p2), .val (.int p3), .val (.int p4), .val (.int n1), .val (.ref b1), .val (.ref tx), .val (.int sg), .val (.int eg), .val (.ref rr), .val (.int (eg - sg)), .val (.int (1 : Int32))] [])
          refine Go.of (fun _ => XS.iload H27.here hx rfl (hb hby at_289) rfl) ?_
          show Go p e below _ T26 (mkF m 291 #[.val (.int p0), .val (.int p1), .val (.int p2), .val (.int p3), .val (.int p4), .val (.int n1), .val (.ref b1), .val (.ref tx), .val (.int sg), .val (.int eg), .val (.ref rr), .val (.int (eg - sg)), .val (.int (1 : Int32))] [(.int (eg - sg))])
          refine Go.of (fun _ => XS.iconst H27.here hx rfl (hb hby at_291)) ?_
          show Go p e below _ T26 (mkF m 292 #[.val (.int p0), .val (.int p1), .val (.int p2), .val (.int p3), .val (.int p4), .val (.int n1), .val (.ref b1), .val (.ref tx), .val (.int sg), .val (.int eg), .val (.ref rr), .val (.int (eg - sg)), .val (.int (1 : Int32))] [(.int (2 : Int32)), (.int (eg - sg))])
          by_cases hbr40 : (2 : Int32) < (eg - sg)
          · skip
            refine Go.of (fun _ => XS.icmpNo H27.here hx rfl (hb hby at_292) rfl (tlt hbr40).2.2.2) ?_
            show Go p e below _ T26 (mkF m 295 #[.val (.int p0), .val (.int p1), .val (.int p2), .val (.int p3), .val (.int p4), .val (.int n1), .val (.ref b1), .val (.ref tx), .val (.int sg), .val (.int eg), .val (.ref rr), .val (.int (eg - sg)), .val (.int (1 : Int32))] [])
            refine Go.of (fun _ => XS.iload H27.here hx rfl (hb hby at_295) rfl) ?_
            show Go p e below _ T26 (mkF m 297 #[.val (.int p0), .val (.int p1), .val (.int p2), .val (.int p3), .val (.int p4), .val (.int n1), .val (.ref b1), .val (.ref tx), .val (.int sg), .val (.int eg), .val (.ref rr), .val (.int (eg - sg)), .val (.int (1 : Int32))] [(.int (1 : Int32))])
            refine Go.of (fun _ => XS.ifNo H27.here hx rfl (hb hby at_297) rfl ((if0 _ _).trans (feq (by decide : ¬ ((1 : Int32) = (0 : Int32)))).1)) ?_
            show Go p e below _ T26 (mkF m 300 #[.val (.int p0), .val (.int p1), .val (.int p2), .val (.int p3), .val (.int p4), .val (.int n1), .val (.ref b1), .val (.ref tx), .val (.int sg), .val (.int eg), .val (.ref rr), .val (.int (eg - sg)), .val (.int (1 : Int32))] [])
            refine Go.of (fun _ => XS.aload H27.here hx rfl (hb hby at_300) rfl rfl) ?_
            show Go p e below _ T26 (mkF m 302 #[.val (.int p0), .val (.int p1), .val (.int p2), .val (.int p3), .val (.int p4), .val (.int n1), .val (.ref b1), .val (.ref tx), .val (.int sg), .val (.int eg), .val (.ref rr), .val (.int (eg - sg)), .val (.int (1 : Int32))] [(.ref rr)])
            refine Go.of (fun _ => XS.iconst H27.here hx rfl (hb hby at_302)) ?_
            show Go p e below _ T26 (mkF m 303 #[.val (.int p0), .val (.int p1), .val (.int p2), .val (.int p3), .val (.int p4), .val (.int n1), .val (.ref b1), .val (.ref tx), .val (.int sg), .val (.int eg), .val (.ref rr), .val (.int (eg - sg)), .val (.int (1 : Int32))] [(.int (2 : Int32)), (.ref rr)])
            have hi2 : 2 < eN - sN := (own_onlt (by decide) (by omega)).mp (hes ▸ hbr40)
            refine own_chS H27 hx hown (ow hw 121 rfl) (ow hw 74 rfl) (ow hw 76 rfl) (ow hw 75 rfl) (own_hwc hw) (ow hw 10 rfl) (i := 2) ST1 (by rw [hTl]; omega) hT (by rw [hTl]; exact hi2) rfl SC hzc SF hfm (W := 0) (by decide) (by decide) rfl (by rw [hml]; rfl) rfl (by show 2 * 0 + _ ≤ _; exact Nat.le_of_eq rfl) (hb hby at_303) (by decide) (by decide) fun T41 H42 => ?_
            show Go p e below _ T41 (mkF m 306 #[.val (.int p0), .val (.int p1), .val (.int p2), .val (.int p3), .val (.int p4), .val (.int n1), .val (.ref b1), .val (.ref tx), .val (.int sg), .val (.int eg), .val (.ref rr), .val (.int (eg - sg)), .val (.int (1 : Int32))] [(.int ((((([c0, c1, c2, c3] : List Int32).drop sN).take (eN - sN))).getD 2 0))])
            refine Go.of (fun _ => XS.aload H42.here hx rfl (hb hby at_306) rfl rfl) ?_
            show Go p e below _ T41 (mkF m 308 #[.val (.int p0), .val (.int p1), .val (.int p2), .val (.int p3), .val (.int p4), .val (.int n1), .val (.ref b1), .val (.ref tx), .val (.int sg), .val (.int eg), .val (.ref rr), .val (.int (eg - sg)), .val (.int (1 : Int32))] [(.ref b1), (.int ((((([c0, c1, c2, c3] : List Int32).drop sN).take (eN - sN))).getD 2 0))])
            refine Go.of (fun _ => XS.iload H42.here hx rfl (hb hby at_308) rfl) ?_
            show Go p e below _ T41 (mkF m 310 #[.val (.int p0), .val (.int p1), .val (.int p2), .val (.int p3), .val (.int p4), .val (.int n1), .val (.ref b1), .val (.ref tx), .val (.int sg), .val (.int eg), .val (.ref rr), .val (.int (eg - sg)), .val (.int (1 : Int32))] [(.int sg), (.ref b1), (.int ((((([c0, c1, c2, c3] : List Int32).drop sN).take (eN - sN))).getD 2 0))])
            refine Go.of (fun _ => XS.iconst H42.here hx rfl (hb hby at_310)) ?_
            show Go p e below _ T41 (mkF m 311 #[.val (.int p0), .val (.int p1), .val (.int p2), .val (.int p3), .val (.int p4), .val (.int n1), .val (.ref b1), .val (.ref tx), .val (.int sg), .val (.int eg), .val (.ref rr), .val (.int (eg - sg)), .val (.int (1 : Int32))] [(.int (2 : Int32)), (.int sg), (.ref b1), (.int ((((([c0, c1, c2, c3] : List Int32).drop sN).take (eN - sN))).getD 2 0))])
            refine Go.of (fun _ => XS.iadd H42.here hx rfl (hb hby at_311) rfl) ?_
            show Go p e below _ T41 (mkF m 312 #[.val (.int p0), .val (.int p1), .val (.int p2), .val (.int p3), .val (.int p4), .val (.int n1), .val (.ref b1), .val (.ref tx), .val (.int sg), .val (.int eg), .val (.ref rr), .val (.int (eg - sg)), .val (.int (1 : Int32))] [(.int (sg + (2 : Int32))), (.ref b1), (.int ((((([c0, c1, c2, c3] : List Int32).drop sN).take (eN - sN))).getD 2 0))])
            have hx2 : (sg + (2 : Int32)) = Int32.ofNat (sN + 2) := by rw [es]; exact own_onadd sN 2
            refine own_caload H42 hx f22 (by rw [hx2]; exact ⟨own_on0 (by omega), (own_onlt (b := 4) (by omega) (by decide)).mpr (by omega)⟩) (v := (.int ((((([c0, c1, c2, c3] : List Int32).drop sN).take (eN - sN))).getD 2 0))) (by rw [hx2, own_onc (by omega)]; exact own_at4 hi2) rfl rfl (hb hby at_312) ?_
            show Go p e below _ T41 (mkF m 313 #[.val (.int p0), .val (.int p1), .val (.int p2), .val (.int p3), .val (.int p4), .val (.int n1), .val (.ref b1), .val (.ref tx), .val (.int sg), .val (.int eg), .val (.ref rr), .val (.int (eg - sg)), .val (.int (1 : Int32))] [(.int ((((([c0, c1, c2, c3] : List Int32).drop sN).take (eN - sN))).getD 2 0)), (.int ((((([c0, c1, c2, c3] : List Int32).drop sN).take (eN - sN))).getD 2 0))])
            refine Go.of (fun _ => XS.icmpNo H42.here hx rfl (hb hby at_313) rfl (teq rfl).2) ?_
            show Go p e below _ T41 (mkF m 316 #[.val (.int p0), .val (.int p1), .val (.int p2), .val (.int p3), .val (.int p4), .val (.int n1), .val (.ref b1), .val (.ref tx), .val (.int sg), .val (.int eg), .val (.ref rr), .val (.int (eg - sg)), .val (.int (1 : Int32))] [])
            refine Go.of (fun _ => XS.iconst H42.here hx rfl (hb hby at_316)) ?_
            show Go p e below _ T41 (mkF m 317 #[.val (.int p0), .val (.int p1), .val (.int p2), .val (.int p3), .val (.int p4), .val (.int n1), .val (.ref b1), .val (.ref tx), .val (.int sg), .val (.int eg), .val (.ref rr), .val (.int (eg - sg)), .val (.int (1 : Int32))] [(.int (1 : Int32))])
            refine Go.of (fun _ => XS.goto H42.here hx rfl (pc0 := 317) (pc' := 321) rfl (hb hby at_317) (by decide) (by decide)) ?_
            show Go p e below _ T41 (mkF m 321 #[.val (.int p0), .val (.int p1), .val (.int p2), .val (.int p3), .val (.int p4), .val (.int n1), .val (.ref b1), .val (.ref tx), .val (.int sg), .val (.int eg), .val (.ref rr), .val (.int (eg - sg)), .val (.int (1 : Int32))] [(.int (1 : Int32))])
            refine Go.of (fun _ => XS.istore H42.here hx rfl (hb hby at_321) rfl (l' := #[.val (.int p0), .val (.int p1), .val (.int p2), .val (.int p3), .val (.int p4), .val (.int n1), .val (.ref b1), .val (.ref tx), .val (.int sg), .val (.int eg), .val (.ref rr), .val (.int (eg - sg)), .val (.int (1 : Int32))]) rfl) ?_
            show Go p e below _ T41 (mkF m 323 #[.val (.int p0), .val (.int p1), .val (.int p2), .val (.int p3), .val (.int p4), .val (.int n1), .val (.ref b1), .val (.ref tx), .val (.int sg), .val (.int eg), .val (.ref rr), .val (.int (eg - sg)), .val (.int (1 : Int32))] [])
            refine Go.of (fun _ => XS.iload H42.here hx rfl (hb hby at_323) rfl) ?_
            show Go p e below _ T41 (mkF m 325 #[.val (.int p0), .val (.int p1), .val (.int p2), .val (.int p3), .val (.int p4), .val (.int n1), .val (.ref b1), .val (.ref tx), .val (.int sg), .val (.int eg), .val (.ref rr), .val (.int (eg - sg)), .val (.int (1 : Int32))] [(.int (eg - sg))])
            refine Go.of (fun _ => XS.iconst H42.here hx rfl (hb hby at_325)) ?_
            show Go p e below _ T41 (mkF m 326 #[.val (.int p0), .val (.int p1), .val (.int p2), .val (.int p3), .val (.int p4), .val (.int n1), .val (.ref b1), .val (.ref tx), .val (.int sg), .val (.int eg), .val (.ref rr), .val (.int (eg - sg)), .val (.int (1 : Int32))] [(.int (3 : Int32)), (.int (eg - sg))])
            by_cases hbr43 : (3 : Int32) < (eg - sg)
            · skip
              refine Go.of (fun _ => XS.icmpNo H42.here hx rfl (hb hby at_326) rfl (tlt hbr43).2.2.2) ?_
              show Go p e below _ T41 (mkF m 329 #[.val (.int p0), .val (.int p1), .val (.int p2), .val (.int p3), .val (.int p4), .val (.int n1), .val (.ref b1), .val (.ref tx), .val (.int sg), .val (.int eg), .val (.ref rr), .val (.int (eg - sg)), .val (.int (1 : Int32))] [])
              refine Go.of (fun _ => XS.iload H42.here hx rfl (hb hby at_329) rfl) ?_
              show Go p e below _ T41 (mkF m 331 #[.val (.int p0), .val (.int p1), .val (.int p2), .val (.int p3), .val (.int p4), .val (.int n1), .val (.ref b1), .val (.ref tx), .val (.int sg), .val (.int eg), .val (.ref rr), .val (.int (eg - sg)), .val (.int (1 : Int32))] [(.int (1 : Int32))])
              refine Go.of (fun _ => XS.ifNo H42.here hx rfl (hb hby at_331) rfl ((if0 _ _).trans (feq (by decide : ¬ ((1 : Int32) = (0 : Int32)))).1)) ?_
              show Go p e below _ T41 (mkF m 334 #[.val (.int p0), .val (.int p1), .val (.int p2), .val (.int p3), .val (.int p4), .val (.int n1), .val (.ref b1), .val (.ref tx), .val (.int sg), .val (.int eg), .val (.ref rr), .val (.int (eg - sg)), .val (.int (1 : Int32))] [])
              refine Go.of (fun _ => XS.aload H42.here hx rfl (hb hby at_334) rfl rfl) ?_
              show Go p e below _ T41 (mkF m 336 #[.val (.int p0), .val (.int p1), .val (.int p2), .val (.int p3), .val (.int p4), .val (.int n1), .val (.ref b1), .val (.ref tx), .val (.int sg), .val (.int eg), .val (.ref rr), .val (.int (eg - sg)), .val (.int (1 : Int32))] [(.ref rr)])
              refine Go.of (fun _ => XS.iconst H42.here hx rfl (hb hby at_336)) ?_
              show Go p e below _ T41 (mkF m 337 #[.val (.int p0), .val (.int p1), .val (.int p2), .val (.int p3), .val (.int p4), .val (.int n1), .val (.ref b1), .val (.ref tx), .val (.int sg), .val (.int eg), .val (.ref rr), .val (.int (eg - sg)), .val (.int (1 : Int32))] [(.int (3 : Int32)), (.ref rr)])
              have hi3 : 3 < eN - sN := (own_onlt (by decide) (by omega)).mp (hes ▸ hbr43)
              refine own_chS H42 hx hown (ow hw 121 rfl) (ow hw 74 rfl) (ow hw 76 rfl) (ow hw 75 rfl) (own_hwc hw) (ow hw 10 rfl) (i := 3) ST1 (by rw [hTl]; omega) hT (by rw [hTl]; exact hi3) rfl SC hzc SF hfm (W := 0) (by decide) (by decide) rfl (by rw [hml]; rfl) rfl (by show 2 * 0 + _ ≤ _; exact Nat.le_of_eq rfl) (hb hby at_337) (by decide) (by decide) fun T44 H45 => ?_
              show Go p e below _ T44 (mkF m 340 #[.val (.int p0), .val (.int p1), .val (.int p2), .val (.int p3), .val (.int p4), .val (.int n1), .val (.ref b1), .val (.ref tx), .val (.int sg), .val (.int eg), .val (.ref rr), .val (.int (eg - sg)), .val (.int (1 : Int32))] [(.int ((((([c0, c1, c2, c3] : List Int32).drop sN).take (eN - sN))).getD 3 0))])
              refine Go.of (fun _ => XS.aload H45.here hx rfl (hb hby at_340) rfl rfl) ?_
              show Go p e below _ T44 (mkF m 342 #[.val (.int p0), .val (.int p1), .val (.int p2), .val (.int p3), .val (.int p4), .val (.int n1), .val (.ref b1), .val (.ref tx), .val (.int sg), .val (.int eg), .val (.ref rr), .val (.int (eg - sg)), .val (.int (1 : Int32))] [(.ref b1), (.int ((((([c0, c1, c2, c3] : List Int32).drop sN).take (eN - sN))).getD 3 0))])
              refine Go.of (fun _ => XS.iload H45.here hx rfl (hb hby at_342) rfl) ?_
              show Go p e below _ T44 (mkF m 344 #[.val (.int p0), .val (.int p1), .val (.int p2), .val (.int p3), .val (.int p4), .val (.int n1), .val (.ref b1), .val (.ref tx), .val (.int sg), .val (.int eg), .val (.ref rr), .val (.int (eg - sg)), .val (.int (1 : Int32))] [(.int sg), (.ref b1), (.int ((((([c0, c1, c2, c3] : List Int32).drop sN).take (eN - sN))).getD 3 0))])
              refine Go.of (fun _ => XS.iconst H45.here hx rfl (hb hby at_344)) ?_
              show Go p e below _ T44 (mkF m 345 #[.val (.int p0), .val (.int p1), .val (.int p2), .val (.int p3), .val (.int p4), .val (.int n1), .val (.ref b1), .val (.ref tx), .val (.int sg), .val (.int eg), .val (.ref rr), .val (.int (eg - sg)), .val (.int (1 : Int32))] [(.int (3 : Int32)), (.int sg), (.ref b1), (.int ((((([c0, c1, c2, c3] : List Int32).drop sN).take (eN - sN))).getD 3 0))])
              refine Go.of (fun _ => XS.iadd H45.here hx rfl (hb hby at_345) rfl) ?_
              show Go p e below _ T44 (mkF m 346 #[.val (.int p0), .val (.int p1), .val (.int p2), .val (.int p3), .val (.int p4), .val (.int n1), .val (.ref b1), .val (.ref tx), .val (.int sg), .val (.int eg), .val (.ref rr), .val (.int (eg - sg)), .val (.int (1 : Int32))] [(.int (sg + (3 : Int32))), (.ref b1), (.int ((((([c0, c1, c2, c3] : List Int32).drop sN).take (eN - sN))).getD 3 0))])
              have hx3 : (sg + (3 : Int32)) = Int32.ofNat (sN + 3) := by rw [es]; exact own_onadd sN 3
              refine own_caload H45 hx f22 (by rw [hx3]; exact ⟨own_on0 (by omega), (own_onlt (b := 4) (by omega) (by decide)).mpr (by omega)⟩) (v := (.int ((((([c0, c1, c2, c3] : List Int32).drop sN).take (eN - sN))).getD 3 0))) (by rw [hx3, own_onc (by omega)]; exact own_at4 hi3) rfl rfl (hb hby at_346) ?_
              show Go p e below _ T44 (mkF m 347 #[.val (.int p0), .val (.int p1), .val (.int p2), .val (.int p3), .val (.int p4), .val (.int n1), .val (.ref b1), .val (.ref tx), .val (.int sg), .val (.int eg), .val (.ref rr), .val (.int (eg - sg)), .val (.int (1 : Int32))] [(.int ((((([c0, c1, c2, c3] : List Int32).drop sN).take (eN - sN))).getD 3 0)), (.int ((((([c0, c1, c2, c3] : List Int32).drop sN).take (eN - sN))).getD 3 0))])
              refine Go.of (fun _ => XS.icmpNo H45.here hx rfl (hb hby at_347) rfl (teq rfl).2) ?_
              show Go p e below _ T44 (mkF m 350 #[.val (.int p0), .val (.int p1), .val (.int p2), .val (.int p3), .val (.int p4), .val (.int n1), .val (.ref b1), .val (.ref tx), .val (.int sg), .val (.int eg), .val (.ref rr), .val (.int (eg - sg)), .val (.int (1 : Int32))] [])
              refine Go.of (fun _ => XS.iconst H45.here hx rfl (hb hby at_350)) ?_
              show Go p e below _ T44 (mkF m 351 #[.val (.int p0), .val (.int p1), .val (.int p2), .val (.int p3), .val (.int p4), .val (.int n1), .val (.ref b1), .val (.ref tx), .val (.int sg), .val (.int eg), .val (.ref rr), .val (.int (eg - sg)), .val (.int (1 : Int32))] [(.int (1 : Int32))])
              refine Go.of (fun _ => XS.goto H45.here hx rfl (pc0 := 351) (pc' := 355) rfl (hb hby at_351) (by decide) (by decide)) ?_
              show Go p e below _ T44 (mkF m 355 #[.val (.int p0), .val (.int p1), .val (.int p2), .val (.int p3), .val (.int p4), .val (.int n1), .val (.ref b1), .val (.ref tx), .val (.int sg), .val (.int eg), .val (.ref rr), .val (.int (eg - sg)), .val (.int (1 : Int32))] [(.int (1 : Int32))])
              refine Go.of (fun _ => XS.istore H45.here hx rfl (hb hby at_355) rfl (l' := #[.val (.int p0), .val (.int p1), .val (.int p2), .val (.int p3), .val (.int p4), .val (.int n1), .val (.ref b1), .val (.ref tx), .val (.int sg), .val (.int eg), .val (.ref rr), .val (.int (eg - sg)), .val (.int (1 : Int32))]) rfl) ?_
              show Go p e below _ T44 (mkF m 357 #[.val (.int p0), .val (.int p1), .val (.int p2), .val (.int p3), .val (.int p4), .val (.int n1), .val (.ref b1), .val (.ref tx), .val (.int sg), .val (.int eg), .val (.ref rr), .val (.int (eg - sg)), .val (.int (1 : Int32))] [])
              refine Go.of (fun _ => XS.iload H45.here hx rfl (hb hby at_357) rfl) ?_
              show Go p e below _ T44 (mkF m 359 #[.val (.int p0), .val (.int p1), .val (.int p2), .val (.int p3), .val (.int p4), .val (.int n1), .val (.ref b1), .val (.ref tx), .val (.int sg), .val (.int eg), .val (.ref rr), .val (.int (eg - sg)), .val (.int (1 : Int32))] [(.int (1 : Int32))])
              exact own_retN H45 hx hlk (t := .boolean) hret (by simp) (hb hby at_359) rfl (by decide) (by decide)
            · skip
              refine Go.of (fun _ => XS.icmpYes H42.here hx rfl (pc0 := 326) (pc' := 357) rfl (hb hby at_326) rfl (flt hbr43).2.2.2 (by decide) (by decide)) ?_
              show Go p e below _ T41 (mkF m 357 #[.val (.int p0), .val (.int p1), .val (.int p2), .val (.int p3), .val (.int p4), .val (.int n1), .val (.ref b1), .val (.ref tx), .val (.int sg), .val (.int eg), .val (.ref rr), .val (.int (eg - sg)), .val (.int (1 : Int32))] [])
              refine Go.of (fun _ => XS.iload H42.here hx rfl (hb hby at_357) rfl) ?_
              show Go p e below _ T41 (mkF m 359 #[.val (.int p0), .val (.int p1), .val (.int p2), .val (.int p3), .val (.int p4), .val (.int n1), .val (.ref b1), .val (.ref tx), .val (.int sg), .val (.int eg), .val (.ref rr), .val (.int (eg - sg)), .val (.int (1 : Int32))] [(.int (1 : Int32))])
              exact own_retN H42 hx hlk (t := .boolean) hret (by simp) (hb hby at_359) rfl (by decide) (by decide)
          · skip
            refine Go.of (fun _ => XS.icmpYes H27.here hx rfl (pc0 := 292) (pc' := 323) rfl (hb hby at_292) rfl (flt hbr40).2.2.2 (by decide) (by decide)) ?_
            show Go p e below _ T26 (mkF m 323 #[.val (.int p0), .val (.int p1), .val (.int p2), .val (.int p3), .val (.int p4), .val (.int n1), .val (.ref b1), .val (.ref tx), .val (.int sg), .val (.int eg), .val (.ref rr), .val (.int (eg - sg)), .val (.int (1 : Int32))] [])
            refine Go.of (fun _ => XS.iload H27.here hx rfl (hb hby at_323) rfl) ?_
            show Go p e below _ T26 (mkF m 325 #[.val (.int p0), .val (.int p1), .val (.int p2), .val (.int p3), .val (.int p4), .val (.int n1), .val (.ref b1), .val (.ref tx), .val (.int sg), .val (.int eg), .val (.ref rr), .val (.int (eg - sg)), .val (.int (1 : Int32))] [(.int (eg - sg))])
            refine Go.of (fun _ => XS.iconst H27.here hx rfl (hb hby at_325)) ?_
            show Go p e below _ T26 (mkF m 326 #[.val (.int p0), .val (.int p1), .val (.int p2), .val (.int p3), .val (.int p4), .val (.int n1), .val (.ref b1), .val (.ref tx), .val (.int sg), .val (.int eg), .val (.ref rr), .val (.int (eg - sg)), .val (.int (1 : Int32))] [(.int (3 : Int32)), (.int (eg - sg))])
            by_cases hbr46 : (3 : Int32) < (eg - sg)
            · skip
              refine Go.of (fun _ => XS.icmpNo H27.here hx rfl (hb hby at_326) rfl (tlt hbr46).2.2.2) ?_
              show Go p e below _ T26 (mkF m 329 #[.val (.int p0), .val (.int p1), .val (.int p2), .val (.int p3), .val (.int p4), .val (.int n1), .val (.ref b1), .val (.ref tx), .val (.int sg), .val (.int eg), .val (.ref rr), .val (.int (eg - sg)), .val (.int (1 : Int32))] [])
              refine Go.of (fun _ => XS.iload H27.here hx rfl (hb hby at_329) rfl) ?_
              show Go p e below _ T26 (mkF m 331 #[.val (.int p0), .val (.int p1), .val (.int p2), .val (.int p3), .val (.int p4), .val (.int n1), .val (.ref b1), .val (.ref tx), .val (.int sg), .val (.int eg), .val (.ref rr), .val (.int (eg - sg)), .val (.int (1 : Int32))] [(.int (1 : Int32))])
              refine Go.of (fun _ => XS.ifNo H27.here hx rfl (hb hby at_331) rfl ((if0 _ _).trans (feq (by decide : ¬ ((1 : Int32) = (0 : Int32)))).1)) ?_
              show Go p e below _ T26 (mkF m 334 #[.val (.int p0), .val (.int p1), .val (.int p2), .val (.int p3), .val (.int p4), .val (.int n1), .val (.ref b1), .val (.ref tx), .val (.int sg), .val (.int eg), .val (.ref rr), .val (.int (eg - sg)), .val (.int (1 : Int32))] [])
              refine Go.of (fun _ => XS.aload H27.here hx rfl (hb hby at_334) rfl rfl) ?_
              show Go p e below _ T26 (mkF m 336 #[.val (.int p0), .val (.int p1), .val (.int p2), .val (.int p3), .val (.int p4), .val (.int n1), .val (.ref b1), .val (.ref tx), .val (.int sg), .val (.int eg), .val (.ref rr), .val (.int (eg - sg)), .val (.int (1 : Int32))] [(.ref rr)])
              refine Go.of (fun _ => XS.iconst H27.here hx rfl (hb hby at_336)) ?_
              show Go p e below _ T26 (mkF m 337 #[.val (.int p0), .val (.int p1), .val (.int p2), .val (.int p3), .val (.int p4), .val (.int n1), .val (.ref b1), .val (.ref tx), .val (.int sg), .val (.int eg), .val (.ref rr), .val (.int (eg - sg)), .val (.int (1 : Int32))] [(.int (3 : Int32)), (.ref rr)])
              have hi3 : 3 < eN - sN := (own_onlt (by decide) (by omega)).mp (hes ▸ hbr46)
              refine own_chS H27 hx hown (ow hw 121 rfl) (ow hw 74 rfl) (ow hw 76 rfl) (ow hw 75 rfl) (own_hwc hw) (ow hw 10 rfl) (i := 3) ST1 (by rw [hTl]; omega) hT (by rw [hTl]; exact hi3) rfl SC hzc SF hfm (W := 0) (by decide) (by decide) rfl (by rw [hml]; rfl) rfl (by show 2 * 0 + _ ≤ _; exact Nat.le_of_eq rfl) (hb hby at_337) (by decide) (by decide) fun T47 H48 => ?_
              show Go p e below _ T47 (mkF m 340 #[.val (.int p0), .val (.int p1), .val (.int p2), .val (.int p3), .val (.int p4), .val (.int n1), .val (.ref b1), .val (.ref tx), .val (.int sg), .val (.int eg), .val (.ref rr), .val (.int (eg - sg)), .val (.int (1 : Int32))] [(.int ((((([c0, c1, c2, c3] : List Int32).drop sN).take (eN - sN))).getD 3 0))])
              refine Go.of (fun _ => XS.aload H48.here hx rfl (hb hby at_340) rfl rfl) ?_
              show Go p e below _ T47 (mkF m 342 #[.val (.int p0), .val (.int p1), .val (.int p2), .val (.int p3), .val (.int p4), .val (.int n1), .val (.ref b1), .val (.ref tx), .val (.int sg), .val (.int eg), .val (.ref rr), .val (.int (eg - sg)), .val (.int (1 : Int32))] [(.ref b1), (.int ((((([c0, c1, c2, c3] : List Int32).drop sN).take (eN - sN))).getD 3 0))])
              refine Go.of (fun _ => XS.iload H48.here hx rfl (hb hby at_342) rfl) ?_
              show Go p e below _ T47 (mkF m 344 #[.val (.int p0), .val (.int p1), .val (.int p2), .val (.int p3), .val (.int p4), .val (.int n1), .val (.ref b1), .val (.ref tx), .val (.int sg), .val (.int eg), .val (.ref rr), .val (.int (eg - sg)), .val (.int (1 : Int32))] [(.int sg), (.ref b1), (.int ((((([c0, c1, c2, c3] : List Int32).drop sN).take (eN - sN))).getD 3 0))])
              refine Go.of (fun _ => XS.iconst H48.here hx rfl (hb hby at_344)) ?_
              show Go p e below _ T47 (mkF m 345 #[.val (.int p0), .val (.int p1), .val (.int p2), .val (.int p3), .val (.int p4), .val (.int n1), .val (.ref b1), .val (.ref tx), .val (.int sg), .val (.int eg), .val (.ref rr), .val (.int (eg - sg)), .val (.int (1 : Int32))] [(.int (3 : Int32)), (.int sg), (.ref b1), (.int ((((([c0, c1, c2, c3] : List Int32).drop sN).take (eN - sN))).getD 3 0))])
              refine Go.of (fun _ => XS.iadd H48.here hx rfl (hb hby at_345) rfl) ?_
              show Go p e below _ T47 (mkF m 346 #[.val (.int p0), .val (.int p1), .val (.int p2), .val (.int p3), .val (.int p4), .val (.int n1), .val (.ref b1), .val (.ref tx), .val (.int sg), .val (.int eg), .val (.ref rr), .val (.int (eg - sg)), .val (.int (1 : Int32))] [(.int (sg + (3 : Int32))), (.ref b1), (.int ((((([c0, c1, c2, c3] : List Int32).drop sN).take (eN - sN))).getD 3 0))])
              have hx3 : (sg + (3 : Int32)) = Int32.ofNat (sN + 3) := by rw [es]; exact own_onadd sN 3
              refine own_caload H48 hx f22 (by rw [hx3]; exact ⟨own_on0 (by omega), (own_onlt (b := 4) (by omega) (by decide)).mpr (by omega)⟩) (v := (.int ((((([c0, c1, c2, c3] : List Int32).drop sN).take (eN - sN))).getD 3 0))) (by rw [hx3, own_onc (by omega)]; exact own_at4 hi3) rfl rfl (hb hby at_346) ?_
              show Go p e below _ T47 (mkF m 347 #[.val (.int p0), .val (.int p1), .val (.int p2), .val (.int p3), .val (.int p4), .val (.int n1), .val (.ref b1), .val (.ref tx), .val (.int sg), .val (.int eg), .val (.ref rr), .val (.int (eg - sg)), .val (.int (1 : Int32))] [(.int ((((([c0, c1, c2, c3] : List Int32).drop sN).take (eN - sN))).getD 3 0)), (.int ((((([c0, c1, c2, c3] : List Int32).drop sN).take (eN - sN))).getD 3 0))])
              refine Go.of (fun _ => XS.icmpNo H48.here hx rfl (hb hby at_347) rfl (teq rfl).2) ?_
              show Go p e below _ T47 (mkF m 350 #[.val (.int p0), .val (.int p1), .val (.int p2), .val (.int p3), .val (.int p4), .val (.int n1), .val (.ref b1), .val (.ref tx), .val (.int sg), .val (.int eg), .val (.ref rr), .val (.int (eg - sg)), .val (.int (1 : Int32))] [])
              refine Go.of (fun _ => XS.iconst H48.here hx rfl (hb hby at_350)) ?_
              show Go p e below _ T47 (mkF m 351 #[.val (.int p0), .val (.int p1), .val (.int p2), .val (.int p3), .val (.int p4), .val (.int n1), .val (.ref b1), .val (.ref tx), .val (.int sg), .val (.int eg), .val (.ref rr), .val (.int (eg - sg)), .val (.int (1 : Int32))] [(.int (1 : Int32))])
              refine Go.of (fun _ => XS.goto H48.here hx rfl (pc0 := 351) (pc' := 355) rfl (hb hby at_351) (by decide) (by decide)) ?_
              show Go p e below _ T47 (mkF m 355 #[.val (.int p0), .val (.int p1), .val (.int p2), .val (.int p3), .val (.int p4), .val (.int n1), .val (.ref b1), .val (.ref tx), .val (.int sg), .val (.int eg), .val (.ref rr), .val (.int (eg - sg)), .val (.int (1 : Int32))] [(.int (1 : Int32))])
              refine Go.of (fun _ => XS.istore H48.here hx rfl (hb hby at_355) rfl (l' := #[.val (.int p0), .val (.int p1), .val (.int p2), .val (.int p3), .val (.int p4), .val (.int n1), .val (.ref b1), .val (.ref tx), .val (.int sg), .val (.int eg), .val (.ref rr), .val (.int (eg - sg)), .val (.int (1 : Int32))]) rfl) ?_
              show Go p e below _ T47 (mkF m 357 #[.val (.int p0), .val (.int p1), .val (.int p2), .val (.int p3), .val (.int p4), .val (.int n1), .val (.ref b1), .val (.ref tx), .val (.int sg), .val (.int eg), .val (.ref rr), .val (.int (eg - sg)), .val (.int (1 : Int32))] [])
              refine Go.of (fun _ => XS.iload H48.here hx rfl (hb hby at_357) rfl) ?_
              show Go p e below _ T47 (mkF m 359 #[.val (.int p0), .val (.int p1), .val (.int p2), .val (.int p3), .val (.int p4), .val (.int n1), .val (.ref b1), .val (.ref tx), .val (.int sg), .val (.int eg), .val (.ref rr), .val (.int (eg - sg)), .val (.int (1 : Int32))] [(.int (1 : Int32))])
              exact own_retN H48 hx hlk (t := .boolean) hret (by simp) (hb hby at_359) rfl (by decide) (by decide)
            · skip
              refine Go.of (fun _ => XS.icmpYes H27.here hx rfl (pc0 := 326) (pc' := 357) rfl (hb hby at_326) rfl (flt hbr46).2.2.2 (by decide) (by decide)) ?_
              show Go p e below _ T26 (mkF m 357 #[.val (.int p0), .val (.int p1), .val (.int p2), .val (.int p3), .val (.int p4), .val (.int n1), .val (.ref b1), .val (.ref tx), .val (.int sg), .val (.int eg), .val (.ref rr), .val (.int (eg - sg)), .val (.int (1 : Int32))] [])
              refine Go.of (fun _ => XS.iload H27.here hx rfl (hb hby at_357) rfl) ?_
              show Go p e below _ T26 (mkF m 359 #[.val (.int p0), .val (.int p1), .val (.int p2), .val (.int p3), .val (.int p4), .val (.int n1), .val (.ref b1), .val (.ref tx), .val (.int sg), .val (.int eg), .val (.ref rr), .val (.int (eg - sg)), .val (.int (1 : Int32))] [(.int (1 : Int32))])
              exact own_retN H27 hx hlk (t := .boolean) hret (by simp) (hb hby at_359) rfl (by decide) (by decide)
      · skip
        refine Go.of (fun _ => XS.ifYes H24.here hx rfl (pc0 := 226) (pc' := 255) rfl (hb hby at_226) rfl ((if0 _ _).trans (flt hbr25).2.2.2) (by decide) (by decide)) ?_
        show Go p e below _ T23 (mkF m 255 #[.val (.int p0), .val (.int p1), .val (.int p2), .val (.int p3), .val (.int p4), .val (.int n1), .val (.ref b1), .val (.ref tx), .val (.int sg), .val (.int eg), .val (.ref rr), .val (.int (eg - sg)), .val (.int (1 : Int32))] [])
        refine Go.of (fun _ => XS.iload H24.here hx rfl (hb hby at_255) rfl) ?_
        show Go p e below _ T23 (mkF m 257 #[.val (.int p0), .val (.int p1), .val (.int p2), .val (.int p3), .val (.int p4), .val (.int n1), .val (.ref b1), .val (.ref tx), .val (.int sg), .val (.int eg), .val (.ref rr), .val (.int (eg - sg)), .val (.int (1 : Int32))] [(.int (eg - sg))])
        refine Go.of (fun _ => XS.iconst H24.here hx rfl (hb hby at_257)) ?_
        show Go p e below _ T23 (mkF m 258 #[.val (.int p0), .val (.int p1), .val (.int p2), .val (.int p3), .val (.int p4), .val (.int n1), .val (.ref b1), .val (.ref tx), .val (.int sg), .val (.int eg), .val (.ref rr), .val (.int (eg - sg)), .val (.int (1 : Int32))] [(.int (1 : Int32)), (.int (eg - sg))])
        by_cases hbr49 : (1 : Int32) < (eg - sg)
        · skip
          refine Go.of (fun _ => XS.icmpNo H24.here hx rfl (hb hby at_258) rfl (tlt hbr49).2.2.2) ?_
          show Go p e below _ T23 (mkF m 261 #[.val (.int p0), .val (.int p1), .val (.int p2), .val (.int p3), .val (.int p4), .val (.int n1), .val (.ref b1), .val (.ref tx), .val (.int sg), .val (.int eg), .val (.ref rr), .val (.int (eg - sg)), .val (.int (1 : Int32))] [])
          refine Go.of (fun _ => XS.iload H24.here hx rfl (hb hby at_261) rfl) ?_
          show Go p e below _ T23 (mkF m 263 #[.val (.int p0), .val (.int p1), .val (.int p2), .val (.int p3), .val (.int p4), .val (.int n1), .val (.ref b1), .val (.ref tx), .val (.int sg), .val (.int eg), .val (.ref rr), .val (.int (eg - sg)), .val (.int (1 : Int32))] [(.int (1 : Int32))])
          refine Go.of (fun _ => XS.ifNo H24.here hx rfl (hb hby at_263) rfl ((if0 _ _).trans (feq (by decide : ¬ ((1 : Int32) = (0 : Int32)))).1)) ?_
          show Go p e below _ T23 (mkF m 266 #[.val (.int p0), .val (.int p1), .val (.int p2), .val (.int p3), .val (.int p4), .val (.int n1), .val (.ref b1), .val (.ref tx), .val (.int sg), .val (.int eg), .val (.ref rr), .val (.int (eg - sg)), .val (.int (1 : Int32))] [])
          refine Go.of (fun _ => XS.aload H24.here hx rfl (hb hby at_266) rfl rfl) ?_
          show Go p e below _ T23 (mkF m 268 #[.val (.int p0), .val (.int p1), .val (.int p2), .val (.int p3), .val (.int p4), .val (.int n1), .val (.ref b1), .val (.ref tx), .val (.int sg), .val (.int eg), .val (.ref rr), .val (.int (eg - sg)), .val (.int (1 : Int32))] [(.ref rr)])
          refine Go.of (fun _ => XS.iconst H24.here hx rfl (hb hby at_268)) ?_
          show Go p e below _ T23 (mkF m 269 #[.val (.int p0), .val (.int p1), .val (.int p2), .val (.int p3), .val (.int p4), .val (.int n1), .val (.ref b1), .val (.ref tx), .val (.int sg), .val (.int eg), .val (.ref rr), .val (.int (eg - sg)), .val (.int (1 : Int32))] [(.int (1 : Int32)), (.ref rr)])
          have hi1 : 1 < eN - sN := (own_onlt (by decide) (by omega)).mp (hes ▸ hbr49)
          refine own_chS H24 hx hown (ow hw 121 rfl) (ow hw 74 rfl) (ow hw 76 rfl) (ow hw 75 rfl) (own_hwc hw) (ow hw 10 rfl) (i := 1) ST1 (by rw [hTl]; omega) hT (by rw [hTl]; exact hi1) rfl SC hzc SF hfm (W := 0) (by decide) (by decide) rfl (by rw [hml]; rfl) rfl (by show 2 * 0 + _ ≤ _; exact Nat.le_of_eq rfl) (hb hby at_269) (by decide) (by decide) fun T50 H51 => ?_
          show Go p e below _ T50 (mkF m 272 #[.val (.int p0), .val (.int p1), .val (.int p2), .val (.int p3), .val (.int p4), .val (.int n1), .val (.ref b1), .val (.ref tx), .val (.int sg), .val (.int eg), .val (.ref rr), .val (.int (eg - sg)), .val (.int (1 : Int32))] [(.int ((((([c0, c1, c2, c3] : List Int32).drop sN).take (eN - sN))).getD 1 0))])
          refine Go.of (fun _ => XS.aload H51.here hx rfl (hb hby at_272) rfl rfl) ?_
          show Go p e below _ T50 (mkF m 274 #[.val (.int p0), .val (.int p1), .val (.int p2), .val (.int p3), .val (.int p4), .val (.int n1), .val (.ref b1), .val (.ref tx), .val (.int sg), .val (.int eg), .val (.ref rr), .val (.int (eg - sg)), .val (.int (1 : Int32))] [(.ref b1), (.int ((((([c0, c1, c2, c3] : List Int32).drop sN).take (eN - sN))).getD 1 0))])
          refine Go.of (fun _ => XS.iload H51.here hx rfl (hb hby at_274) rfl) ?_
          show Go p e below _ T50 (mkF m 276 #[.val (.int p0), .val (.int p1), .val (.int p2), .val (.int p3), .val (.int p4), .val (.int n1), .val (.ref b1), .val (.ref tx), .val (.int sg), .val (.int eg), .val (.ref rr), .val (.int (eg - sg)), .val (.int (1 : Int32))] [(.int sg), (.ref b1), (.int ((((([c0, c1, c2, c3] : List Int32).drop sN).take (eN - sN))).getD 1 0))])
          refine Go.of (fun _ => XS.iconst H51.here hx rfl (hb hby at_276)) ?_
          show Go p e below _ T50 (mkF m 277 #[.val (.int p0), .val (.int p1), .val (.int p2), .val (.int p3), .val (.int p4), .val (.int n1), .val (.ref b1), .val (.ref tx), .val (.int sg), .val (.int eg), .val (.ref rr), .val (.int (eg - sg)), .val (.int (1 : Int32))] [(.int (1 : Int32)), (.int sg), (.ref b1), (.int ((((([c0, c1, c2, c3] : List Int32).drop sN).take (eN - sN))).getD 1 0))])
          refine Go.of (fun _ => XS.iadd H51.here hx rfl (hb hby at_277) rfl) ?_
          show Go p e below _ T50 (mkF m 278 #[.val (.int p0), .val (.int p1), .val (.int p2), .val (.int p3), .val (.int p4), .val (.int n1), .val (.ref b1), .val (.ref tx), .val (.int sg), .val (.int eg), .val (.ref rr), .val (.int (eg - sg)), .val (.int (1 : Int32))] [(.int (sg + (1 : Int32))), (.ref b1), (.int ((((([c0, c1, c2, c3] : List Int32).drop sN).take (eN - sN))).getD 1 0))])
          have hx1 : (sg + (1 : Int32)) = Int32.ofNat (sN + 1) := by rw [es]; exact own_onadd sN 1
          refine own_caload H51 hx f22 (by rw [hx1]; exact ⟨own_on0 (by omega), (own_onlt (b := 4) (by omega) (by decide)).mpr (by omega)⟩) (v := (.int ((((([c0, c1, c2, c3] : List Int32).drop sN).take (eN - sN))).getD 1 0))) (by rw [hx1, own_onc (by omega)]; exact own_at4 hi1) rfl rfl (hb hby at_278) ?_
          show Go p e below _ T50 (mkF m 279 #[.val (.int p0), .val (.int p1), .val (.int p2), .val (.int p3), .val (.int p4), .val (.int n1), .val (.ref b1), .val (.ref tx), .val (.int sg), .val (.int eg), .val (.ref rr), .val (.int (eg - sg)), .val (.int (1 : Int32))] [(.int ((((([c0, c1, c2, c3] : List Int32).drop sN).take (eN - sN))).getD 1 0)), (.int ((((([c0, c1, c2, c3] : List Int32).drop sN).take (eN - sN))).getD 1 0))])
          refine Go.of (fun _ => XS.icmpNo H51.here hx rfl (hb hby at_279) rfl (teq rfl).2) ?_
          show Go p e below _ T50 (mkF m 282 #[.val (.int p0), .val (.int p1), .val (.int p2), .val (.int p3), .val (.int p4), .val (.int n1), .val (.ref b1), .val (.ref tx), .val (.int sg), .val (.int eg), .val (.ref rr), .val (.int (eg - sg)), .val (.int (1 : Int32))] [])
          refine Go.of (fun _ => XS.iconst H51.here hx rfl (hb hby at_282)) ?_
          show Go p e below _ T50 (mkF m 283 #[.val (.int p0), .val (.int p1), .val (.int p2), .val (.int p3), .val (.int p4), .val (.int n1), .val (.ref b1), .val (.ref tx), .val (.int sg), .val (.int eg), .val (.ref rr), .val (.int (eg - sg)), .val (.int (1 : Int32))] [(.int (1 : Int32))])
          refine Go.of (fun _ => XS.goto H51.here hx rfl (pc0 := 283) (pc' := 287) rfl (hb hby at_283) (by decide) (by decide)) ?_
          show Go p e below _ T50 (mkF m 287 #[.val (.int p0), .val (.int p1), .val (.int p2), .val (.int p3), .val (.int p4), .val (.int n1), .val (.ref b1), .val (.ref tx), .val (.int sg), .val (.int eg), .val (.ref rr), .val (.int (eg - sg)), .val (.int (1 : Int32))] [(.int (1 : Int32))])
          refine Go.of (fun _ => XS.istore H51.here hx rfl (hb hby at_287) rfl (l' := #[.val (.int p0), .val (.int p1), .val (.int p2), .val (.int p3), .val (.int p4), .val (.int n1), .val (.ref b1), .val (.ref tx), .val (.int sg), .val (.int eg), .val (.ref rr), .val (.int (eg - sg)), .val (.int (1 : Int32))]) rfl) ?_
          show Go p e below _ T50 (mkF m 289 #[.val (.int p0), .val (.int p1), .val (.int p2), .val (.int p3), .val (.int p4), .val (.int n1), .val (.ref b1), .val (.ref tx), .val (.int sg), .val (.int eg), .val (.ref rr), .val (.int (eg - sg)), .val (.int (1 : Int32))] [])
          refine Go.of (fun _ => XS.iload H51.here hx rfl (hb hby at_289) rfl) ?_
          show Go p e below _ T50 (mkF m 291 #[.val (.int p0), .val (.int p1), .val (.int p2), .val (.int p3), .val (.int p4), .val (.int n1), .val (.ref b1), .val (.ref tx), .val (.int sg), .val (.int eg), .val (.ref rr), .val (.int (eg - sg)), .val (.int (1 : Int32))] [(.int (eg - sg))])
          refine Go.of (fun _ => XS.iconst H51.here hx rfl (hb hby at_291)) ?_
          show Go p e below _ T50 (mkF m 292 #[.val (.int p0), .val (.int p1), .val (.int p2), .val (.int p3), .val (.int p4), .val (.int n1), .val (.ref b1), .val (.ref tx), .val (.int sg), .val (.int eg), .val (.ref rr), .val (.int (eg - sg)), .val (.int (1 : Int32))] [(.int (2 : Int32)), (.int (eg - sg))])
          by_cases hbr52 : (2 : Int32) < (eg - sg)
          · skip
            refine Go.of (fun _ => XS.icmpNo H51.here hx rfl (hb hby at_292) rfl (tlt hbr52).2.2.2) ?_
            show Go p e below _ T50 (mkF m 295 #[.val (.int p0), .val (.int p1), .val (.int p2), .val (.int p3), .val (.int p4), .val (.int n1), .val (.ref b1), .val (.ref tx), .val (.int sg), .val (.int eg), .val (.ref rr), .val (.int (eg - sg)), .val (.int (1 : Int32))] [])
            refine Go.of (fun _ => XS.iload H51.here hx rfl (hb hby at_295) rfl) ?_
            show Go p e below _ T50 (mkF m 297 #[.val (.int p0), .val (.int p1), .val (.int p2), .val (.int p3), .val (.int p4), .val (.int n1), .val (.ref b1), .val (.ref tx), .val (.int sg), .val (.int eg), .val (.ref rr), .val (.int (eg - sg)), .val (.int (1 : Int32))] [(.int (1 : Int32))])
            refine Go.of (fun _ => XS.ifNo H51.here hx rfl (hb hby at_297) rfl ((if0 _ _).trans (feq (by decide : ¬ ((1 : Int32) = (0 : Int32)))).1)) ?_
            show Go p e below _ T50 (mkF m 300 #[.val (.int p0), .val (.int p1), .val (.int p2), .val (.int p3), .val (.int p4), .val (.int n1), .val (.ref b1), .val (.ref tx), .val (.int sg), .val (.int eg), .val (.ref rr), .val (.int (eg - sg)), .val (.int (1 : Int32))] [])
            refine Go.of (fun _ => XS.aload H51.here hx rfl (hb hby at_300) rfl rfl) ?_
            show Go p e below _ T50 (mkF m 302 #[.val (.int p0), .val (.int p1), .val (.int p2), .val (.int p3), .val (.int p4), .val (.int n1), .val (.ref b1), .val (.ref tx), .val (.int sg), .val (.int eg), .val (.ref rr), .val (.int (eg - sg)), .val (.int (1 : Int32))] [(.ref rr)])
            refine Go.of (fun _ => XS.iconst H51.here hx rfl (hb hby at_302)) ?_
            show Go p e below _ T50 (mkF m 303 #[.val (.int p0), .val (.int p1), .val (.int p2), .val (.int p3), .val (.int p4), .val (.int n1), .val (.ref b1), .val (.ref tx), .val (.int sg), .val (.int eg), .val (.ref rr), .val (.int (eg - sg)), .val (.int (1 : Int32))] [(.int (2 : Int32)), (.ref rr)])
            have hi2 : 2 < eN - sN := (own_onlt (by decide) (by omega)).mp (hes ▸ hbr52)
            refine own_chS H51 hx hown (ow hw 121 rfl) (ow hw 74 rfl) (ow hw 76 rfl) (ow hw 75 rfl) (own_hwc hw) (ow hw 10 rfl) (i := 2) ST1 (by rw [hTl]; omega) hT (by rw [hTl]; exact hi2) rfl SC hzc SF hfm (W := 0) (by decide) (by decide) rfl (by rw [hml]; rfl) rfl (by show 2 * 0 + _ ≤ _; exact Nat.le_of_eq rfl) (hb hby at_303) (by decide) (by decide) fun T53 H54 => ?_
            show Go p e below _ T53 (mkF m 306 #[.val (.int p0), .val (.int p1), .val (.int p2), .val (.int p3), .val (.int p4), .val (.int n1), .val (.ref b1), .val (.ref tx), .val (.int sg), .val (.int eg), .val (.ref rr), .val (.int (eg - sg)), .val (.int (1 : Int32))] [(.int ((((([c0, c1, c2, c3] : List Int32).drop sN).take (eN - sN))).getD 2 0))])
            refine Go.of (fun _ => XS.aload H54.here hx rfl (hb hby at_306) rfl rfl) ?_
            show Go p e below _ T53 (mkF m 308 #[.val (.int p0), .val (.int p1), .val (.int p2), .val (.int p3), .val (.int p4), .val (.int n1), .val (.ref b1), .val (.ref tx), .val (.int sg), .val (.int eg), .val (.ref rr), .val (.int (eg - sg)), .val (.int (1 : Int32))] [(.ref b1), (.int ((((([c0, c1, c2, c3] : List Int32).drop sN).take (eN - sN))).getD 2 0))])
            refine Go.of (fun _ => XS.iload H54.here hx rfl (hb hby at_308) rfl) ?_
            show Go p e below _ T53 (mkF m 310 #[.val (.int p0), .val (.int p1), .val (.int p2), .val (.int p3), .val (.int p4), .val (.int n1), .val (.ref b1), .val (.ref tx), .val (.int sg), .val (.int eg), .val (.ref rr), .val (.int (eg - sg)), .val (.int (1 : Int32))] [(.int sg), (.ref b1), (.int ((((([c0, c1, c2, c3] : List Int32).drop sN).take (eN - sN))).getD 2 0))])
            refine Go.of (fun _ => XS.iconst H54.here hx rfl (hb hby at_310)) ?_
            show Go p e below _ T53 (mkF m 311 #[.val (.int p0), .val (.int p1), .val (.int p2), .val (.int p3), .val (.int p4), .val (.int n1), .val (.ref b1), .val (.ref tx), .val (.int sg), .val (.int eg), .val (.ref rr), .val (.int (eg - sg)), .val (.int (1 : Int32))] [(.int (2 : Int32)), (.int sg), (.ref b1), (.int ((((([c0, c1, c2, c3] : List Int32).drop sN).take (eN - sN))).getD 2 0))])
            refine Go.of (fun _ => XS.iadd H54.here hx rfl (hb hby at_311) rfl) ?_
            show Go p e below _ T53 (mkF m 312 #[.val (.int p0), .val (.int p1), .val (.int p2), .val (.int p3), .val (.int p4), .val (.int n1), .val (.ref b1), .val (.ref tx), .val (.int sg), .val (.int eg), .val (.ref rr), .val (.int (eg - sg)), .val (.int (1 : Int32))] [(.int (sg + (2 : Int32))), (.ref b1), (.int ((((([c0, c1, c2, c3] : List Int32).drop sN).take (eN - sN))).getD 2 0))])
            have hx2 : (sg + (2 : Int32)) = Int32.ofNat (sN + 2) := by rw [es]; exact own_onadd sN 2
            refine own_caload H54 hx f22 (by rw [hx2]; exact ⟨own_on0 (by omega), (own_onlt (b := 4) (by omega) (by decide)).mpr (by omega)⟩) (v := (.int ((((([c0, c1, c2, c3] : List Int32).drop sN).take (eN - sN))).getD 2 0))) (by rw [hx2, own_onc (by omega)]; exact own_at4 hi2) rfl rfl (hb hby at_312) ?_
            show Go p e below _ T53 (mkF m 313 #[.val (.int p0), .val (.int p1), .val (.int p2), .val (.int p3), .val (.int p4), .val (.int n1), .val (.ref b1), .val (.ref tx), .val (.int sg), .val (.int eg), .val (.ref rr), .val (.int (eg - sg)), .val (.int (1 : Int32))] [(.int ((((([c0, c1, c2, c3] : List Int32).drop sN).take (eN - sN))).getD 2 0)), (.int ((((([c0, c1, c2, c3] : List Int32).drop sN).take (eN - sN))).getD 2 0))])
            refine Go.of (fun _ => XS.icmpNo H54.here hx rfl (hb hby at_313) rfl (teq rfl).2) ?_
            show Go p e below _ T53 (mkF m 316 #[.val (.int p0), .val (.int p1), .val (.int p2), .val (.int p3), .val (.int p4), .val (.int n1), .val (.ref b1), .val (.ref tx), .val (.int sg), .val (.int eg), .val (.ref rr), .val (.int (eg - sg)), .val (.int (1 : Int32))] [])
            refine Go.of (fun _ => XS.iconst H54.here hx rfl (hb hby at_316)) ?_
            show Go p e below _ T53 (mkF m 317 #[.val (.int p0), .val (.int p1), .val (.int p2), .val (.int p3), .val (.int p4), .val (.int n1), .val (.ref b1), .val (.ref tx), .val (.int sg), .val (.int eg), .val (.ref rr), .val (.int (eg - sg)), .val (.int (1 : Int32))] [(.int (1 : Int32))])
            refine Go.of (fun _ => XS.goto H54.here hx rfl (pc0 := 317) (pc' := 321) rfl (hb hby at_317) (by decide) (by decide)) ?_
            show Go p e below _ T53 (mkF m 321 #[.val (.int p0), .val (.int p1), .val (.int p2), .val (.int p3), .val (.int p4), .val (.int n1), .val (.ref b1), .val (.ref tx), .val (.int sg), .val (.int eg), .val (.ref rr), .val (.int (eg - sg)), .val (.int (1 : Int32))] [(.int (1 : Int32))])
            refine Go.of (fun _ => XS.istore H54.here hx rfl (hb hby at_321) rfl (l' := #[.val (.int p0), .val (.int p1), .val (.int p2), .val (.int p3), .val (.int p4), .val (.int n1), .val (.ref b1), .val (.ref tx), .val (.int sg), .val (.int eg), .val (.ref rr), .val (.int (eg - sg)), .val (.int (1 : Int32))]) rfl) ?_
            show Go p e below _ T53 (mkF m 323 #[.val (.int p0), .val (.int p1), .val (.int p2), .val (.int p3), .val (.int p4), .val (.int n1), .val (.ref b1), .val (.ref tx), .val (.int sg), .val (.int eg), .val (.ref rr), .val (.int (eg - sg)), .val (.int (1 : Int32))] [])
            refine Go.of (fun _ => XS.iload H54.here hx rfl (hb hby at_323) rfl) ?_
            show Go p e below _ T53 (mkF m 325 #[.val (.int p0), .val (.int p1), .val (.int p2), .val (.int p3), .val (.int p4), .val (.int n1), .val (.ref b1), .val (.ref tx), .val (.int sg), .val (.int eg), .val (.ref rr), .val (.int (eg - sg)), .val (.int (1 : Int32))] [(.int (eg - sg))])
            refine Go.of (fun _ => XS.iconst H54.here hx rfl (hb hby at_325)) ?_
            show Go p e below _ T53 (mkF m 326 #[.val (.int p0), .val (.int p1), .val (.int p2), .val (.int p3), .val (.int p4), .val (.int n1), .val (.ref b1), .val (.ref tx), .val (.int sg), .val (.int eg), .val (.ref rr), .val (.int (eg - sg)), .val (.int (1 : Int32))] [(.int (3 : Int32)), (.int (eg - sg))])
            by_cases hbr55 : (3 : Int32) < (eg - sg)
            · skip
              refine Go.of (fun _ => XS.icmpNo H54.here hx rfl (hb hby at_326) rfl (tlt hbr55).2.2.2) ?_
              show Go p e below _ T53 (mkF m 329 #[.val (.int p0), .val (.int p1), .val (.int p2), .val (.int p3), .val (.int p4), .val (.int n1), .val (.ref b1), .val (.ref tx), .val (.int sg), .val (.int eg), .val (.ref rr), .val (.int (eg - sg)), .val (.int (1 : Int32))] [])
              refine Go.of (fun _ => XS.iload H54.here hx rfl (hb hby at_329) rfl) ?_
              show Go p e below _ T53 (mkF m 331 #[.val (.int p0), .val (.int p1), .val (.int p2), .val (.int p3), .val (.int p4), .val (.int n1), .val (.ref b1), .val (.ref tx), .val (.int sg), .val (.int eg), .val (.ref rr), .val (.int (eg - sg)), .val (.int (1 : Int32))] [(.int (1 : Int32))])
              refine Go.of (fun _ => XS.ifNo H54.here hx rfl (hb hby at_331) rfl ((if0 _ _).trans (feq (by decide : ¬ ((1 : Int32) = (0 : Int32)))).1)) ?_
              show Go p e below _ T53 (mkF m 334 #[.val (.int p0), .val (.int p1), .val (.int p2), .val (.int p3), .val (.int p4), .val (.int n1), .val (.ref b1), .val (.ref tx), .val (.int sg), .val (.int eg), .val (.ref rr), .val (.int (eg - sg)), .val (.int (1 : Int32))] [])
              refine Go.of (fun _ => XS.aload H54.here hx rfl (hb hby at_334) rfl rfl) ?_
              show Go p e below _ T53 (mkF m 336 #[.val (.int p0), .val (.int p1), .val (.int p2), .val (.int p3), .val (.int p4), .val (.int n1), .val (.ref b1), .val (.ref tx), .val (.int sg), .val (.int eg), .val (.ref rr), .val (.int (eg - sg)), .val (.int (1 : Int32))] [(.ref rr)])
              refine Go.of (fun _ => XS.iconst H54.here hx rfl (hb hby at_336)) ?_
              show Go p e below _ T53 (mkF m 337 #[.val (.int p0), .val (.int p1), .val (.int p2), .val (.int p3), .val (.int p4), .val (.int n1), .val (.ref b1), .val (.ref tx), .val (.int sg), .val (.int eg), .val (.ref rr), .val (.int (eg - sg)), .val (.int (1 : Int32))] [(.int (3 : Int32)), (.ref rr)])
              have hi3 : 3 < eN - sN := (own_onlt (by decide) (by omega)).mp (hes ▸ hbr55)
              refine own_chS H54 hx hown (ow hw 121 rfl) (ow hw 74 rfl) (ow hw 76 rfl) (ow hw 75 rfl) (own_hwc hw) (ow hw 10 rfl) (i := 3) ST1 (by rw [hTl]; omega) hT (by rw [hTl]; exact hi3) rfl SC hzc SF hfm (W := 0) (by decide) (by decide) rfl (by rw [hml]; rfl) rfl (by show 2 * 0 + _ ≤ _; exact Nat.le_of_eq rfl) (hb hby at_337) (by decide) (by decide) fun T56 H57 => ?_
              show Go p e below _ T56 (mkF m 340 #[.val (.int p0), .val (.int p1), .val (.int p2), .val (.int p3), .val (.int p4), .val (.int n1), .val (.ref b1), .val (.ref tx), .val (.int sg), .val (.int eg), .val (.ref rr), .val (.int (eg - sg)), .val (.int (1 : Int32))] [(.int ((((([c0, c1, c2, c3] : List Int32).drop sN).take (eN - sN))).getD 3 0))])
              refine Go.of (fun _ => XS.aload H57.here hx rfl (hb hby at_340) rfl rfl) ?_
              show Go p e below _ T56 (mkF m 342 #[.val (.int p0), .val (.int p1), .val (.int p2), .val (.int p3), .val (.int p4), .val (.int n1), .val (.ref b1), .val (.ref tx), .val (.int sg), .val (.int eg), .val (.ref rr), .val (.int (eg - sg)), .val (.int (1 : Int32))] [(.ref b1), (.int ((((([c0, c1, c2, c3] : List Int32).drop sN).take (eN - sN))).getD 3 0))])
              refine Go.of (fun _ => XS.iload H57.here hx rfl (hb hby at_342) rfl) ?_
              show Go p e below _ T56 (mkF m 344 #[.val (.int p0), .val (.int p1), .val (.int p2), .val (.int p3), .val (.int p4), .val (.int n1), .val (.ref b1), .val (.ref tx), .val (.int sg), .val (.int eg), .val (.ref rr), .val (.int (eg - sg)), .val (.int (1 : Int32))] [(.int sg), (.ref b1), (.int ((((([c0, c1, c2, c3] : List Int32).drop sN).take (eN - sN))).getD 3 0))])
              refine Go.of (fun _ => XS.iconst H57.here hx rfl (hb hby at_344)) ?_
              show Go p e below _ T56 (mkF m 345 #[.val (.int p0), .val (.int p1), .val (.int p2), .val (.int p3), .val (.int p4), .val (.int n1), .val (.ref b1), .val (.ref tx), .val (.int sg), .val (.int eg), .val (.ref rr), .val (.int (eg - sg)), .val (.int (1 : Int32))] [(.int (3 : Int32)), (.int sg), (.ref b1), (.int ((((([c0, c1, c2, c3] : List Int32).drop sN).take (eN - sN))).getD 3 0))])
              refine Go.of (fun _ => XS.iadd H57.here hx rfl (hb hby at_345) rfl) ?_
              show Go p e below _ T56 (mkF m 346 #[.val (.int p0), .val (.int p1), .val (.int p2), .val (.int p3), .val (.int p4), .val (.int n1), .val (.ref b1), .val (.ref tx), .val (.int sg), .val (.int eg), .val (.ref rr), .val (.int (eg - sg)), .val (.int (1 : Int32))] [(.int (sg + (3 : Int32))), (.ref b1), (.int ((((([c0, c1, c2, c3] : List Int32).drop sN).take (eN - sN))).getD 3 0))])
              have hx3 : (sg + (3 : Int32)) = Int32.ofNat (sN + 3) := by rw [es]; exact own_onadd sN 3
              refine own_caload H57 hx f22 (by rw [hx3]; exact ⟨own_on0 (by omega), (own_onlt (b := 4) (by omega) (by decide)).mpr (by omega)⟩) (v := (.int ((((([c0, c1, c2, c3] : List Int32).drop sN).take (eN - sN))).getD 3 0))) (by rw [hx3, own_onc (by omega)]; exact own_at4 hi3) rfl rfl (hb hby at_346) ?_
              show Go p e below _ T56 (mkF m 347 #[.val (.int p0), .val (.int p1), .val (.int p2), .val (.int p3), .val (.int p4), .val (.int n1), .val (.ref b1), .val (.ref tx), .val (.int sg), .val (.int eg), .val (.ref rr), .val (.int (eg - sg)), .val (.int (1 : Int32))] [(.int ((((([c0, c1, c2, c3] : List Int32).drop sN).take (eN - sN))).getD 3 0)), (.int ((((([c0, c1, c2, c3] : List Int32).drop sN).take (eN - sN))).getD 3 0))])
              refine Go.of (fun _ => XS.icmpNo H57.here hx rfl (hb hby at_347) rfl (teq rfl).2) ?_
              show Go p e below _ T56 (mkF m 350 #[.val (.int p0), .val (.int p1), .val (.int p2), .val (.int p3), .val (.int p4), .val (.int n1), .val (.ref b1), .val (.ref tx), .val (.int sg), .val (.int eg), .val (.ref rr), .val (.int (eg - sg)), .val (.int (1 : Int32))] [])
              refine Go.of (fun _ => XS.iconst H57.here hx rfl (hb hby at_350)) ?_
              show Go p e below _ T56 (mkF m 351 #[.val (.int p0), .val (.int p1), .val (.int p2), .val (.int p3), .val (.int p4), .val (.int n1), .val (.ref b1), .val (.ref tx), .val (.int sg), .val (.int eg), .val (.ref rr), .val (.int (eg - sg)), .val (.int (1 : Int32))] [(.int (1 : Int32))])
              refine Go.of (fun _ => XS.goto H57.here hx rfl (pc0 := 351) (pc' := 355) rfl (hb hby at_351) (by decide) (by decide)) ?_
              show Go p e below _ T56 (mkF m 355 #[.val (.int p0), .val (.int p1), .val (.int p2), .val (.int p3), .val (.int p4), .val (.int n1), .val (.ref b1), .val (.ref tx), .val (.int sg), .val (.int eg), .val (.ref rr), .val (.int (eg - sg)), .val (.int (1 : Int32))] [(.int (1 : Int32))])
              refine Go.of (fun _ => XS.istore H57.here hx rfl (hb hby at_355) rfl (l' := #[.val (.int p0), .val (.int p1), .val (.int p2), .val (.int p3), .val (.int p4), .val (.int n1), .val (.ref b1), .val (.ref tx), .val (.int sg), .val (.int eg), .val (.ref rr), .val (.int (eg - sg)), .val (.int (1 : Int32))]) rfl) ?_
              show Go p e below _ T56 (mkF m 357 #[.val (.int p0), .val (.int p1), .val (.int p2), .val (.int p3), .val (.int p4), .val (.int n1), .val (.ref b1), .val (.ref tx), .val (.int sg), .val (.int eg), .val (.ref rr), .val (.int (eg - sg)), .val (.int (1 : Int32))] [])
              refine Go.of (fun _ => XS.iload H57.here hx rfl (hb hby at_357) rfl) ?_
              show Go p e below _ T56 (mkF m 359 #[.val (.int p0), .val (.int p1), .val (.int p2), .val (.int p3), .val (.int p4), .val (.int n1), .val (.ref b1), .val (.ref tx), .val (.int sg), .val (.int eg), .val (.ref rr), .val (.int (eg - sg)), .val (.int (1 : Int32))] [(.int (1 : Int32))])
              exact own_retN H57 hx hlk (t := .boolean) hret (by simp) (hb hby at_359) rfl (by decide) (by decide)
            · skip
              refine Go.of (fun _ => XS.icmpYes H54.here hx rfl (pc0 := 326) (pc' := 357) rfl (hb hby at_326) rfl (flt hbr55).2.2.2 (by decide) (by decide)) ?_
              show Go p e below _ T53 (mkF m 357 #[.val (.int p0), .val (.int p1), .val (.int p2), .val (.int p3), .val (.int p4), .val (.int n1), .val (.ref b1), .val (.ref tx), .val (.int sg), .val (.int eg), .val (.ref rr), .val (.int (eg - sg)), .val (.int (1 : Int32))] [])
              refine Go.of (fun _ => XS.iload H54.here hx rfl (hb hby at_357) rfl) ?_
              show Go p e below _ T53 (mkF m 359 #[.val (.int p0), .val (.int p1), .val (.int p2), .val (.int p3), .val (.int p4), .val (.int n1), .val (.ref b1), .val (.ref tx), .val (.int sg), .val (.int eg), .val (.ref rr), .val (.int (eg - sg)), .val (.int (1 : Int32))] [(.int (1 : Int32))])
              exact own_retN H54 hx hlk (t := .boolean) hret (by simp) (hb hby at_359) rfl (by decide) (by decide)
          · skip
            refine Go.of (fun _ => XS.icmpYes H51.here hx rfl (pc0 := 292) (pc' := 323) rfl (hb hby at_292) rfl (flt hbr52).2.2.2 (by decide) (by decide)) ?_
            show Go p e below _ T50 (mkF m 323 #[.val (.int p0), .val (.int p1), .val (.int p2), .val (.int p3), .val (.int p4), .val (.int n1), .val (.ref b1), .val (.ref tx), .val (.int sg), .val (.int eg), .val (.ref rr), .val (.int (eg - sg)), .val (.int (1 : Int32))] [])
            refine Go.of (fun _ => XS.iload H51.here hx rfl (hb hby at_323) rfl) ?_
            show Go p e below _ T50 (mkF m 325 #[.val (.int p0), .val (.int p1), .val (.int p2), .val (.int p3), .val (.int p4), .val (.int n1), .val (.ref b1), .val (.ref tx), .val (.int sg), .val (.int eg), .val (.ref rr), .val (.int (eg - sg)), .val (.int (1 : Int32))] [(.int (eg - sg))])
            refine Go.of (fun _ => XS.iconst H51.here hx rfl (hb hby at_325)) ?_
            show Go p e below _ T50 (mkF m 326 #[.val (.int p0), .val (.int p1), .val (.int p2), .val (.int p3), .val (.int p4), .val (.int n1), .val (.ref b1), .val (.ref tx), .val (.int sg), .val (.int eg), .val (.ref rr), .val (.int (eg - sg)), .val (.int (1 : Int32))] [(.int (3 : Int32)), (.int (eg - sg))])
            by_cases hbr58 : (3 : Int32) < (eg - sg)
            · skip
              refine Go.of (fun _ => XS.icmpNo H51.here hx rfl (hb hby at_326) rfl (tlt hbr58).2.2.2) ?_
              show Go p e below _ T50 (mkF m 329 #[.val (.int p0), .val (.int p1), .val (.int p2), .val (.int p3), .val (.int p4), .val (.int n1), .val (.ref b1), .val (.ref tx), .val (.int sg), .val (.int eg), .val (.ref rr), .val (.int (eg - sg)), .val (.int (1 : Int32))] [])
              refine Go.of (fun _ => XS.iload H51.here hx rfl (hb hby at_329) rfl) ?_
              show Go p e below _ T50 (mkF m 331 #[.val (.int p0), .val (.int p1), .val (.int p2), .val (.int p3), .val (.int p4), .val (.int n1), .val (.ref b1), .val (.ref tx), .val (.int sg), .val (.int eg), .val (.ref rr), .val (.int (eg - sg)), .val (.int (1 : Int32))] [(.int (1 : Int32))])
              refine Go.of (fun _ => XS.ifNo H51.here hx rfl (hb hby at_331) rfl ((if0 _ _).trans (feq (by decide : ¬ ((1 : Int32) = (0 : Int32)))).1)) ?_
              show Go p e below _ T50 (mkF m 334 #[.val (.int p0), .val (.int p1), .val (.int p2), .val (.int p3), .val (.int p4), .val (.int n1), .val (.ref b1), .val (.ref tx), .val (.int sg), .val (.int eg), .val (.ref rr), .val (.int (eg - sg)), .val (.int (1 : Int32))] [])
              refine Go.of (fun _ => XS.aload H51.here hx rfl (hb hby at_334) rfl rfl) ?_
              show Go p e below _ T50 (mkF m 336 #[.val (.int p0), .val (.int p1), .val (.int p2), .val (.int p3), .val (.int p4), .val (.int n1), .val (.ref b1), .val (.ref tx), .val (.int sg), .val (.int eg), .val (.ref rr), .val (.int (eg - sg)), .val (.int (1 : Int32))] [(.ref rr)])
              refine Go.of (fun _ => XS.iconst H51.here hx rfl (hb hby at_336)) ?_
              show Go p e below _ T50 (mkF m 337 #[.val (.int p0), .val (.int p1), .val (.int p2), .val (.int p3), .val (.int p4), .val (.int n1), .val (.ref b1), .val (.ref tx), .val (.int sg), .val (.int eg), .val (.ref rr), .val (.int (eg - sg)), .val (.int (1 : Int32))] [(.int (3 : Int32)), (.ref rr)])
              have hi3 : 3 < eN - sN := (own_onlt (by decide) (by omega)).mp (hes ▸ hbr58)
              refine own_chS H51 hx hown (ow hw 121 rfl) (ow hw 74 rfl) (ow hw 76 rfl) (ow hw 75 rfl) (own_hwc hw) (ow hw 10 rfl) (i := 3) ST1 (by rw [hTl]; omega) hT (by rw [hTl]; exact hi3) rfl SC hzc SF hfm (W := 0) (by decide) (by decide) rfl (by rw [hml]; rfl) rfl (by show 2 * 0 + _ ≤ _; exact Nat.le_of_eq rfl) (hb hby at_337) (by decide) (by decide) fun T59 H60 => ?_
              show Go p e below _ T59 (mkF m 340 #[.val (.int p0), .val (.int p1), .val (.int p2), .val (.int p3), .val (.int p4), .val (.int n1), .val (.ref b1), .val (.ref tx), .val (.int sg), .val (.int eg), .val (.ref rr), .val (.int (eg - sg)), .val (.int (1 : Int32))] [(.int ((((([c0, c1, c2, c3] : List Int32).drop sN).take (eN - sN))).getD 3 0))])
              refine Go.of (fun _ => XS.aload H60.here hx rfl (hb hby at_340) rfl rfl) ?_
              show Go p e below _ T59 (mkF m 342 #[.val (.int p0), .val (.int p1), .val (.int p2), .val (.int p3), .val (.int p4), .val (.int n1), .val (.ref b1), .val (.ref tx), .val (.int sg), .val (.int eg), .val (.ref rr), .val (.int (eg - sg)), .val (.int (1 : Int32))] [(.ref b1), (.int ((((([c0, c1, c2, c3] : List Int32).drop sN).take (eN - sN))).getD 3 0))])
              refine Go.of (fun _ => XS.iload H60.here hx rfl (hb hby at_342) rfl) ?_
              show Go p e below _ T59 (mkF m 344 #[.val (.int p0), .val (.int p1), .val (.int p2), .val (.int p3), .val (.int p4), .val (.int n1), .val (.ref b1), .val (.ref tx), .val (.int sg), .val (.int eg), .val (.ref rr), .val (.int (eg - sg)), .val (.int (1 : Int32))] [(.int sg), (.ref b1), (.int ((((([c0, c1, c2, c3] : List Int32).drop sN).take (eN - sN))).getD 3 0))])
              refine Go.of (fun _ => XS.iconst H60.here hx rfl (hb hby at_344)) ?_
              show Go p e below _ T59 (mkF m 345 #[.val (.int p0), .val (.int p1), .val (.int p2), .val (.int p3), .val (.int p4), .val (.int n1), .val (.ref b1), .val (.ref tx), .val (.int sg), .val (.int eg), .val (.ref rr), .val (.int (eg - sg)), .val (.int (1 : Int32))] [(.int (3 : Int32)), (.int sg), (.ref b1), (.int ((((([c0, c1, c2, c3] : List Int32).drop sN).take (eN - sN))).getD 3 0))])
              refine Go.of (fun _ => XS.iadd H60.here hx rfl (hb hby at_345) rfl) ?_
              show Go p e below _ T59 (mkF m 346 #[.val (.int p0), .val (.int p1), .val (.int p2), .val (.int p3), .val (.int p4), .val (.int n1), .val (.ref b1), .val (.ref tx), .val (.int sg), .val (.int eg), .val (.ref rr), .val (.int (eg - sg)), .val (.int (1 : Int32))] [(.int (sg + (3 : Int32))), (.ref b1), (.int ((((([c0, c1, c2, c3] : List Int32).drop sN).take (eN - sN))).getD 3 0))])
              have hx3 : (sg + (3 : Int32)) = Int32.ofNat (sN + 3) := by rw [es]; exact own_onadd sN 3
              refine own_caload H60 hx f22 (by rw [hx3]; exact ⟨own_on0 (by omega), (own_onlt (b := 4) (by omega) (by decide)).mpr (by omega)⟩) (v := (.int ((((([c0, c1, c2, c3] : List Int32).drop sN).take (eN - sN))).getD 3 0))) (by rw [hx3, own_onc (by omega)]; exact own_at4 hi3) rfl rfl (hb hby at_346) ?_
              show Go p e below _ T59 (mkF m 347 #[.val (.int p0), .val (.int p1), .val (.int p2), .val (.int p3), .val (.int p4), .val (.int n1), .val (.ref b1), .val (.ref tx), .val (.int sg), .val (.int eg), .val (.ref rr), .val (.int (eg - sg)), .val (.int (1 : Int32))] [(.int ((((([c0, c1, c2, c3] : List Int32).drop sN).take (eN - sN))).getD 3 0)), (.int ((((([c0, c1, c2, c3] : List Int32).drop sN).take (eN - sN))).getD 3 0))])
              refine Go.of (fun _ => XS.icmpNo H60.here hx rfl (hb hby at_347) rfl (teq rfl).2) ?_
              show Go p e below _ T59 (mkF m 350 #[.val (.int p0), .val (.int p1), .val (.int p2), .val (.int p3), .val (.int p4), .val (.int n1), .val (.ref b1), .val (.ref tx), .val (.int sg), .val (.int eg), .val (.ref rr), .val (.int (eg - sg)), .val (.int (1 : Int32))] [])
              refine Go.of (fun _ => XS.iconst H60.here hx rfl (hb hby at_350)) ?_
              show Go p e below _ T59 (mkF m 351 #[.val (.int p0), .val (.int p1), .val (.int p2), .val (.int p3), .val (.int p4), .val (.int n1), .val (.ref b1), .val (.ref tx), .val (.int sg), .val (.int eg), .val (.ref rr), .val (.int (eg - sg)), .val (.int (1 : Int32))] [(.int (1 : Int32))])
              refine Go.of (fun _ => XS.goto H60.here hx rfl (pc0 := 351) (pc' := 355) rfl (hb hby at_351) (by decide) (by decide)) ?_
              show Go p e below _ T59 (mkF m 355 #[.val (.int p0), .val (.int p1), .val (.int p2), .val (.int p3), .val (.int p4), .val (.int n1), .val (.ref b1), .val (.ref tx), .val (.int sg), .val (.int eg), .val (.ref rr), .val (.int (eg - sg)), .val (.int (1 : Int32))] [(.int (1 : Int32))])
              refine Go.of (fun _ => XS.istore H60.here hx rfl (hb hby at_355) rfl (l' := #[.val (.int p0), .val (.int p1), .val (.int p2), .val (.int p3), .val (.int p4), .val (.int n1), .val (.ref b1), .val (.ref tx), .val (.int sg), .val (.int eg), .val (.ref rr), .val (.int (eg - sg)), .val (.int (1 : Int32))]) rfl) ?_
              show Go p e below _ T59 (mkF m 357 #[.val (.int p0), .val (.int p1), .val (.int p2), .val (.int p3), .val (.int p4), .val (.int n1), .val (.ref b1), .val (.ref tx), .val (.int sg), .val (.int eg), .val (.ref rr), .val (.int (eg - sg)), .val (.int (1 : Int32))] [])
              refine Go.of (fun _ => XS.iload H60.here hx rfl (hb hby at_357) rfl) ?_
              show Go p e below _ T59 (mkF m 359 #[.val (.int p0), .val (.int p1), .val (.int p2), .val (.int p3), .val (.int p4), .val (.int n1), .val (.ref b1), .val (.ref tx), .val (.int sg), .val (.int eg), .val (.ref rr), .val (.int (eg - sg)), .val (.int (1 : Int32))] [(.int (1 : Int32))])
              exact own_retN H60 hx hlk (t := .boolean) hret (by simp) (hb hby at_359) rfl (by decide) (by decide)
            · skip
              refine Go.of (fun _ => XS.icmpYes H51.here hx rfl (pc0 := 326) (pc' := 357) rfl (hb hby at_326) rfl (flt hbr58).2.2.2 (by decide) (by decide)) ?_
              show Go p e below _ T50 (mkF m 357 #[.val (.int p0), .val (.int p1), .val (.int p2), .val (.int p3), .val (.int p4), .val (.int n1), .val (.ref b1), .val (.ref tx), .val (.int sg), .val (.int eg), .val (.ref rr), .val (.int (eg - sg)), .val (.int (1 : Int32))] [])
              refine Go.of (fun _ => XS.iload H51.here hx rfl (hb hby at_357) rfl) ?_
              show Go p e below _ T50 (mkF m 359 #[.val (.int p0), .val (.int p1), .val (.int p2), .val (.int p3), .val (.int p4), .val (.int n1), .val (.ref b1), .val (.ref tx), .val (.int sg), .val (.int eg), .val (.ref rr), .val (.int (eg - sg)), .val (.int (1 : Int32))] [(.int (1 : Int32))])
              exact own_retN H51 hx hlk (t := .boolean) hret (by simp) (hb hby at_359) rfl (by decide) (by decide)
        · skip
          refine Go.of (fun _ => XS.icmpYes H24.here hx rfl (pc0 := 258) (pc' := 289) rfl (hb hby at_258) rfl (flt hbr49).2.2.2 (by decide) (by decide)) ?_
          show Go p e below _ T23 (mkF m 289 #[.val (.int p0), .val (.int p1), .val (.int p2), .val (.int p3), .val (.int p4), .val (.int n1), .val (.ref b1), .val (.ref tx), .val (.int sg), .val (.int eg), .val (.ref rr), .val (.int (eg - sg)), .val (.int (1 : Int32))] [])
          refine Go.of (fun _ => XS.iload H24.here hx rfl (hb hby at_289) rfl) ?_
          show Go p e below _ T23 (mkF m 291 #[.val (.int p0), .val (.int p1), .val (.int p2), .val (.int p3), .val (.int p4), .val (.int n1), .val (.ref b1), .val (.ref tx), .val (.int sg), .val (.int eg), .val (.ref rr), .val (.int (eg - sg)), .val (.int (1 : Int32))] [(.int (eg - sg))])
          refine Go.of (fun _ => XS.iconst H24.here hx rfl (hb hby at_291)) ?_
          show Go p e below _ T23 (mkF m 292 #[.val (.int p0), .val (.int p1), .val (.int p2), .val (.int p3), .val (.int p4), .val (.int n1), .val (.ref b1), .val (.ref tx), .val (.int sg), .val (.int eg), .val (.ref rr), .val (.int (eg - sg)), .val (.int (1 : Int32))] [(.int (2 : Int32)), (.int (eg - sg))])
          by_cases hbr61 : (2 : Int32) < (eg - sg)
          · skip
            refine Go.of (fun _ => XS.icmpNo H24.here hx rfl (hb hby at_292) rfl (tlt hbr61).2.2.2) ?_
            show Go p e below _ T23 (mkF m 295 #[.val (.int p0), .val (.int p1), .val (.int p2), .val (.int p3), .val (.int p4), .val (.int n1), .val (.ref b1), .val (.ref tx), .val (.int sg), .val (.int eg), .val (.ref rr), .val (.int (eg - sg)), .val (.int (1 : Int32))] [])
            refine Go.of (fun _ => XS.iload H24.here hx rfl (hb hby at_295) rfl) ?_
            show Go p e below _ T23 (mkF m 297 #[.val (.int p0), .val (.int p1), .val (.int p2), .val (.int p3), .val (.int p4), .val (.int n1), .val (.ref b1), .val (.ref tx), .val (.int sg), .val (.int eg), .val (.ref rr), .val (.int (eg - sg)), .val (.int (1 : Int32))] [(.int (1 : Int32))])
            refine Go.of (fun _ => XS.ifNo H24.here hx rfl (hb hby at_297) rfl ((if0 _ _).trans (feq (by decide : ¬ ((1 : Int32) = (0 : Int32)))).1)) ?_
            show Go p e below _ T23 (mkF m 300 #[.val (.int p0), .val (.int p1), .val (.int p2), .val (.int p3), .val (.int p4), .val (.int n1), .val (.ref b1), .val (.ref tx), .val (.int sg), .val (.int eg), .val (.ref rr), .val (.int (eg - sg)), .val (.int (1 : Int32))] [])
            refine Go.of (fun _ => XS.aload H24.here hx rfl (hb hby at_300) rfl rfl) ?_
            show Go p e below _ T23 (mkF m 302 #[.val (.int p0), .val (.int p1), .val (.int p2), .val (.int p3), .val (.int p4), .val (.int n1), .val (.ref b1), .val (.ref tx), .val (.int sg), .val (.int eg), .val (.ref rr), .val (.int (eg - sg)), .val (.int (1 : Int32))] [(.ref rr)])
            refine Go.of (fun _ => XS.iconst H24.here hx rfl (hb hby at_302)) ?_
            show Go p e below _ T23 (mkF m 303 #[.val (.int p0), .val (.int p1), .val (.int p2), .val (.int p3), .val (.int p4), .val (.int n1), .val (.ref b1), .val (.ref tx), .val (.int sg), .val (.int eg), .val (.ref rr), .val (.int (eg - sg)), .val (.int (1 : Int32))] [(.int (2 : Int32)), (.ref rr)])
            have hi2 : 2 < eN - sN := (own_onlt (by decide) (by omega)).mp (hes ▸ hbr61)
            refine own_chS H24 hx hown (ow hw 121 rfl) (ow hw 74 rfl) (ow hw 76 rfl) (ow hw 75 rfl) (own_hwc hw) (ow hw 10 rfl) (i := 2) ST1 (by rw [hTl]; omega) hT (by rw [hTl]; exact hi2) rfl SC hzc SF hfm (W := 0) (by decide) (by decide) rfl (by rw [hml]; rfl) rfl (by show 2 * 0 + _ ≤ _; exact Nat.le_of_eq rfl) (hb hby at_303) (by decide) (by decide) fun T62 H63 => ?_
            show Go p e below _ T62 (mkF m 306 #[.val (.int p0), .val (.int p1), .val (.int p2), .val (.int p3), .val (.int p4), .val (.int n1), .val (.ref b1), .val (.ref tx), .val (.int sg), .val (.int eg), .val (.ref rr), .val (.int (eg - sg)), .val (.int (1 : Int32))] [(.int ((((([c0, c1, c2, c3] : List Int32).drop sN).take (eN - sN))).getD 2 0))])
            refine Go.of (fun _ => XS.aload H63.here hx rfl (hb hby at_306) rfl rfl) ?_
            show Go p e below _ T62 (mkF m 308 #[.val (.int p0), .val (.int p1), .val (.int p2), .val (.int p3), .val (.int p4), .val (.int n1), .val (.ref b1), .val (.ref tx), .val (.int sg), .val (.int eg), .val (.ref rr), .val (.int (eg - sg)), .val (.int (1 : Int32))] [(.ref b1), (.int ((((([c0, c1, c2, c3] : List Int32).drop sN).take (eN - sN))).getD 2 0))])
            refine Go.of (fun _ => XS.iload H63.here hx rfl (hb hby at_308) rfl) ?_
            show Go p e below _ T62 (mkF m 310 #[.val (.int p0), .val (.int p1), .val (.int p2), .val (.int p3), .val (.int p4), .val (.int n1), .val (.ref b1), .val (.ref tx), .val (.int sg), .val (.int eg), .val (.ref rr), .val (.int (eg - sg)), .val (.int (1 : Int32))] [(.int sg), (.ref b1), (.int ((((([c0, c1, c2, c3] : List Int32).drop sN).take (eN - sN))).getD 2 0))])
            refine Go.of (fun _ => XS.iconst H63.here hx rfl (hb hby at_310)) ?_
            show Go p e below _ T62 (mkF m 311 #[.val (.int p0), .val (.int p1), .val (.int p2), .val (.int p3), .val (.int p4), .val (.int n1), .val (.ref b1), .val (.ref tx), .val (.int sg), .val (.int eg), .val (.ref rr), .val (.int (eg - sg)), .val (.int (1 : Int32))] [(.int (2 : Int32)), (.int sg), (.ref b1), (.int ((((([c0, c1, c2, c3] : List Int32).drop sN).take (eN - sN))).getD 2 0))])
            refine Go.of (fun _ => XS.iadd H63.here hx rfl (hb hby at_311) rfl) ?_
            show Go p e below _ T62 (mkF m 312 #[.val (.int p0), .val (.int p1), .val (.int p2), .val (.int p3), .val (.int p4), .val (.int n1), .val (.ref b1), .val (.ref tx), .val (.int sg), .val (.int eg), .val (.ref rr), .val (.int (eg - sg)), .val (.int (1 : Int32))] [(.int (sg + (2 : Int32))), (.ref b1), (.int ((((([c0, c1, c2, c3] : List Int32).drop sN).take (eN - sN))).getD 2 0))])
            have hx2 : (sg + (2 : Int32)) = Int32.ofNat (sN + 2) := by rw [es]; exact own_onadd sN 2
            refine own_caload H63 hx f22 (by rw [hx2]; exact ⟨own_on0 (by omega), (own_onlt (b := 4) (by omega) (by decide)).mpr (by omega)⟩) (v := (.int ((((([c0, c1, c2, c3] : List Int32).drop sN).take (eN - sN))).getD 2 0))) (by rw [hx2, own_onc (by omega)]; exact own_at4 hi2) rfl rfl (hb hby at_312) ?_
            show Go p e below _ T62 (mkF m 313 #[.val (.int p0), .val (.int p1), .val (.int p2), .val (.int p3), .val (.int p4), .val (.int n1), .val (.ref b1), .val (.ref tx), .val (.int sg), .val (.int eg), .val (.ref rr), .val (.int (eg - sg)), .val (.int (1 : Int32))] [(.int ((((([c0, c1, c2, c3] : List Int32).drop sN).take (eN - sN))).getD 2 0)), (.int ((((([c0, c1, c2, c3] : List Int32).drop sN).take (eN - sN))).getD 2 0))])
            refine Go.of (fun _ => XS.icmpNo H63.here hx rfl (hb hby at_313) rfl (teq rfl).2) ?_
            show Go p e below _ T62 (mkF m 316 #[.val (.int p0), .val (.int p1), .val (.int p2), .val (.int p3), .val (.int p4), .val (.int n1), .val (.ref b1), .val (.ref tx), .val (.int sg), .val (.int eg), .val (.ref rr), .val (.int (eg - sg)), .val (.int (1 : Int32))] [])
            refine Go.of (fun _ => XS.iconst H63.here hx rfl (hb hby at_316)) ?_
            show Go p e below _ T62 (mkF m 317 #[.val (.int p0), .val (.int p1), .val (.int p2), .val (.int p3), .val (.int p4), .val (.int n1), .val (.ref b1), .val (.ref tx), .val (.int sg), .val (.int eg), .val (.ref rr), .val (.int (eg - sg)), .val (.int (1 : Int32))] [(.int (1 : Int32))])
            refine Go.of (fun _ => XS.goto H63.here hx rfl (pc0 := 317) (pc' := 321) rfl (hb hby at_317) (by decide) (by decide)) ?_
            show Go p e below _ T62 (mkF m 321 #[.val (.int p0), .val (.int p1), .val (.int p2), .val (.int p3), .val (.int p4), .val (.int n1), .val (.ref b1), .val (.ref tx), .val (.int sg), .val (.int eg), .val (.ref rr), .val (.int (eg - sg)), .val (.int (1 : Int32))] [(.int (1 : Int32))])
            refine Go.of (fun _ => XS.istore H63.here hx rfl (hb hby at_321) rfl (l' := #[.val (.int p0), .val (.int p1), .val (.int p2), .val (.int p3), .val (.int p4), .val (.int n1), .val (.ref b1), .val (.ref tx), .val (.int sg), .val (.int eg), .val (.ref rr), .val (.int (eg - sg)), .val (.int (1 : Int32))]) rfl) ?_
            show Go p e below _ T62 (mkF m 323 #[.val (.int p0), .val (.int p1), .val (.int p2), .val (.int p3), .val (.int p4), .val (.int n1), .val (.ref b1), .val (.ref tx), .val (.int sg), .val (.int eg), .val (.ref rr), .val (.int (eg - sg)), .val (.int (1 : Int32))] [])
            refine Go.of (fun _ => XS.iload H63.here hx rfl (hb hby at_323) rfl) ?_
            show Go p e below _ T62 (mkF m 325 #[.val (.int p0), .val (.int p1), .val (.int p2), .val (.int p3), .val (.int p4), .val (.int n1), .val (.ref b1), .val (.ref tx), .val (.int sg), .val (.int eg), .val (.ref rr), .val (.int (eg - sg)), .val (.int (1 : Int32))] [(.int (eg - sg))])
            refine Go.of (fun _ => XS.iconst H63.here hx rfl (hb hby at_325)) ?_
            show Go p e below _ T62 (mkF m 326 #[.val (.int p0), .val (.int p1), .val (.int p2), .val (.int p3), .val (.int p4), .val (.int n1), .val (.ref b1), .val (.ref tx), .val (.int sg), .val (.int eg), .val (.ref rr), .val (.int (eg - sg)), .val (.int (1 : Int32))] [(.int (3 : Int32)), (.int (eg - sg))])
            by_cases hbr64 : (3 : Int32) < (eg - sg)
            · skip
              refine Go.of (fun _ => XS.icmpNo H63.here hx rfl (hb hby at_326) rfl (tlt hbr64).2.2.2) ?_
              show Go p e below _ T62 (mkF m 329 #[.val (.int p0), .val (.int p1), .val (.int p2), .val (.int p3), .val (.int p4), .val (.int n1), .val (.ref b1), .val (.ref tx), .val (.int sg), .val (.int eg), .val (.ref rr), .val (.int (eg - sg)), .val (.int (1 : Int32))] [])
              refine Go.of (fun _ => XS.iload H63.here hx rfl (hb hby at_329) rfl) ?_
              show Go p e below _ T62 (mkF m 331 #[.val (.int p0), .val (.int p1), .val (.int p2), .val (.int p3), .val (.int p4), .val (.int n1), .val (.ref b1), .val (.ref tx), .val (.int sg), .val (.int eg), .val (.ref rr), .val (.int (eg - sg)), .val (.int (1 : Int32))] [(.int (1 : Int32))])
              refine Go.of (fun _ => XS.ifNo H63.here hx rfl (hb hby at_331) rfl ((if0 _ _).trans (feq (by decide : ¬ ((1 : Int32) = (0 : Int32)))).1)) ?_
              show Go p e below _ T62 (mkF m 334 #[.val (.int p0), .val (.int p1), .val (.int p2), .val (.int p3), .val (.int p4), .val (.int n1), .val (.ref b1), .val (.ref tx), .val (.int sg), .val (.int eg), .val (.ref rr), .val (.int (eg - sg)), .val (.int (1 : Int32))] [])
              refine Go.of (fun _ => XS.aload H63.here hx rfl (hb hby at_334) rfl rfl) ?_
              show Go p e below _ T62 (mkF m 336 #[.val (.int p0), .val (.int p1), .val (.int p2), .val (.int p3), .val (.int p4), .val (.int n1), .val (.ref b1), .val (.ref tx), .val (.int sg), .val (.int eg), .val (.ref rr), .val (.int (eg - sg)), .val (.int (1 : Int32))] [(.ref rr)])
              refine Go.of (fun _ => XS.iconst H63.here hx rfl (hb hby at_336)) ?_
              show Go p e below _ T62 (mkF m 337 #[.val (.int p0), .val (.int p1), .val (.int p2), .val (.int p3), .val (.int p4), .val (.int n1), .val (.ref b1), .val (.ref tx), .val (.int sg), .val (.int eg), .val (.ref rr), .val (.int (eg - sg)), .val (.int (1 : Int32))] [(.int (3 : Int32)), (.ref rr)])
              have hi3 : 3 < eN - sN := (own_onlt (by decide) (by omega)).mp (hes ▸ hbr64)
              refine own_chS H63 hx hown (ow hw 121 rfl) (ow hw 74 rfl) (ow hw 76 rfl) (ow hw 75 rfl) (own_hwc hw) (ow hw 10 rfl) (i := 3) ST1 (by rw [hTl]; omega) hT (by rw [hTl]; exact hi3) rfl SC hzc SF hfm (W := 0) (by decide) (by decide) rfl (by rw [hml]; rfl) rfl (by show 2 * 0 + _ ≤ _; exact Nat.le_of_eq rfl) (hb hby at_337) (by decide) (by decide) fun T65 H66 => ?_
              show Go p e below _ T65 (mkF m 340 #[.val (.int p0), .val (.int p1), .val (.int p2), .val (.int p3), .val (.int p4), .val (.int n1), .val (.ref b1), .val (.ref tx), .val (.int sg), .val (.int eg), .val (.ref rr), .val (.int (eg - sg)), .val (.int (1 : Int32))] [(.int ((((([c0, c1, c2, c3] : List Int32).drop sN).take (eN - sN))).getD 3 0))])
              refine Go.of (fun _ => XS.aload H66.here hx rfl (hb hby at_340) rfl rfl) ?_
              show Go p e below _ T65 (mkF m 342 #[.val (.int p0), .val (.int p1), .val (.int p2), .val (.int p3), .val (.int p4), .val (.int n1), .val (.ref b1), .val (.ref tx), .val (.int sg), .val (.int eg), .val (.ref rr), .val (.int (eg - sg)), .val (.int (1 : Int32))] [(.ref b1), (.int ((((([c0, c1, c2, c3] : List Int32).drop sN).take (eN - sN))).getD 3 0))])
              refine Go.of (fun _ => XS.iload H66.here hx rfl (hb hby at_342) rfl) ?_
              show Go p e below _ T65 (mkF m 344 #[.val (.int p0), .val (.int p1), .val (.int p2), .val (.int p3), .val (.int p4), .val (.int n1), .val (.ref b1), .val (.ref tx), .val (.int sg), .val (.int eg), .val (.ref rr), .val (.int (eg - sg)), .val (.int (1 : Int32))] [(.int sg), (.ref b1), (.int ((((([c0, c1, c2, c3] : List Int32).drop sN).take (eN - sN))).getD 3 0))])
              refine Go.of (fun _ => XS.iconst H66.here hx rfl (hb hby at_344)) ?_
              show Go p e below _ T65 (mkF m 345 #[.val (.int p0), .val (.int p1), .val (.int p2), .val (.int p3), .val (.int p4), .val (.int n1), .val (.ref b1), .val (.ref tx), .val (.int sg), .val (.int eg), .val (.ref rr), .val (.int (eg - sg)), .val (.int (1 : Int32))] [(.int (3 : Int32)), (.int sg), (.ref b1), (.int ((((([c0, c1, c2, c3] : List Int32).drop sN).take (eN - sN))).getD 3 0))])
              refine Go.of (fun _ => XS.iadd H66.here hx rfl (hb hby at_345) rfl) ?_
              show Go p e below _ T65 (mkF m 346 #[.val (.int p0), .val (.int p1), .val (.int p2), .val (.int p3), .val (.int p4), .val (.int n1), .val (.ref b1), .val (.ref tx), .val (.int sg), .val (.int eg), .val (.ref rr), .val (.int (eg - sg)), .val (.int (1 : Int32))] [(.int (sg + (3 : Int32))), (.ref b1), (.int ((((([c0, c1, c2, c3] : List Int32).drop sN).take (eN - sN))).getD 3 0))])
              have hx3 : (sg + (3 : Int32)) = Int32.ofNat (sN + 3) := by rw [es]; exact own_onadd sN 3
              refine own_caload H66 hx f22 (by rw [hx3]; exact ⟨own_on0 (by omega), (own_onlt (b := 4) (by omega) (by decide)).mpr (by omega)⟩) (v := (.int ((((([c0, c1, c2, c3] : List Int32).drop sN).take (eN - sN))).getD 3 0))) (by rw [hx3, own_onc (by omega)]; exact own_at4 hi3) rfl rfl (hb hby at_346) ?_
              show Go p e below _ T65 (mkF m 347 #[.val (.int p0), .val (.int p1), .val (.int p2), .val (.int p3), .val (.int p4), .val (.int n1), .val (.ref b1), .val (.ref tx), .val (.int sg), .val (.int eg), .val (.ref rr), .val (.int (eg - sg)), .val (.int (1 : Int32))] [(.int ((((([c0, c1, c2, c3] : List Int32).drop sN).take (eN - sN))).getD 3 0)), (.int ((((([c0, c1, c2, c3] : List Int32).drop sN).take (eN - sN))).getD 3 0))])
              refine Go.of (fun _ => XS.icmpNo H66.here hx rfl (hb hby at_347) rfl (teq rfl).2) ?_
              show Go p e below _ T65 (mkF m 350 #[.val (.int p0), .val (.int p1), .val (.int p2), .val (.int p3), .val (.int p4), .val (.int n1), .val (.ref b1), .val (.ref tx), .val (.int sg), .val (.int eg), .val (.ref rr), .val (.int (eg - sg)), .val (.int (1 : Int32))] [])
              refine Go.of (fun _ => XS.iconst H66.here hx rfl (hb hby at_350)) ?_
              show Go p e below _ T65 (mkF m 351 #[.val (.int p0), .val (.int p1), .val (.int p2), .val (.int p3), .val (.int p4), .val (.int n1), .val (.ref b1), .val (.ref tx), .val (.int sg), .val (.int eg), .val (.ref rr), .val (.int (eg - sg)), .val (.int (1 : Int32))] [(.int (1 : Int32))])
              refine Go.of (fun _ => XS.goto H66.here hx rfl (pc0 := 351) (pc' := 355) rfl (hb hby at_351) (by decide) (by decide)) ?_
              show Go p e below _ T65 (mkF m 355 #[.val (.int p0), .val (.int p1), .val (.int p2), .val (.int p3), .val (.int p4), .val (.int n1), .val (.ref b1), .val (.ref tx), .val (.int sg), .val (.int eg), .val (.ref rr), .val (.int (eg - sg)), .val (.int (1 : Int32))] [(.int (1 : Int32))])
              refine Go.of (fun _ => XS.istore H66.here hx rfl (hb hby at_355) rfl (l' := #[.val (.int p0), .val (.int p1), .val (.int p2), .val (.int p3), .val (.int p4), .val (.int n1), .val (.ref b1), .val (.ref tx), .val (.int sg), .val (.int eg), .val (.ref rr), .val (.int (eg - sg)), .val (.int (1 : Int32))]) rfl) ?_
              show Go p e below _ T65 (mkF m 357 #[.val (.int p0), .val (.int p1), .val (.int p2), .val (.int p3), .val (.int p4), .val (.int n1), .val (.ref b1), .val (.ref tx), .val (.int sg), .val (.int eg), .val (.ref rr), .val (.int (eg - sg)), .val (.int (1 : Int32))] [])
              refine Go.of (fun _ => XS.iload H66.here hx rfl (hb hby at_357) rfl) ?_
              show Go p e below _ T65 (mkF m 359 #[.val (.int p0), .val (.int p1), .val (.int p2), .val (.int p3), .val (.int p4), .val (.int n1), .val (.ref b1), .val (.ref tx), .val (.int sg), .val (.int eg), .val (.ref rr), .val (.int (eg - sg)), .val (.int (1 : Int32))] [(.int (1 : Int32))])
              exact own_retN H66 hx hlk (t := .boolean) hret (by simp) (hb hby at_359) rfl (by decide) (by decide)
            · skip
              refine Go.of (fun _ => XS.icmpYes H63.here hx rfl (pc0 := 326) (pc' := 357) rfl (hb hby at_326) rfl (flt hbr64).2.2.2 (by decide) (by decide)) ?_
              show Go p e below _ T62 (mkF m 357 #[.val (.int p0), .val (.int p1), .val (.int p2), .val (.int p3), .val (.int p4), .val (.int n1), .val (.ref b1), .val (.ref tx), .val (.int sg), .val (.int eg), .val (.ref rr), .val (.int (eg - sg)), .val (.int (1 : Int32))] [])
              refine Go.of (fun _ => XS.iload H63.here hx rfl (hb hby at_357) rfl) ?_
              show Go p e below _ T62 (mkF m 359 #[.val (.int p0), .val (.int p1), .val (.int p2), .val (.int p3), .val (.int p4), .val (.int n1), .val (.ref b1), .val (.ref tx), .val (.int sg), .val (.int eg), .val (.ref rr), .val (.int (eg - sg)), .val (.int (1 : Int32))] [(.int (1 : Int32))])
              exact own_retN H63 hx hlk (t := .boolean) hret (by simp) (hb hby at_359) rfl (by decide) (by decide)
          · skip
            refine Go.of (fun _ => XS.icmpYes H24.here hx rfl (pc0 := 292) (pc' := 323) rfl (hb hby at_292) rfl (flt hbr61).2.2.2 (by decide) (by decide)) ?_
            show Go p e below _ T23 (mkF m 323 #[.val (.int p0), .val (.int p1), .val (.int p2), .val (.int p3), .val (.int p4), .val (.int n1), .val (.ref b1), .val (.ref tx), .val (.int sg), .val (.int eg), .val (.ref rr), .val (.int (eg - sg)), .val (.int (1 : Int32))] [])
            refine Go.of (fun _ => XS.iload H24.here hx rfl (hb hby at_323) rfl) ?_
            show Go p e below _ T23 (mkF m 325 #[.val (.int p0), .val (.int p1), .val (.int p2), .val (.int p3), .val (.int p4), .val (.int n1), .val (.ref b1), .val (.ref tx), .val (.int sg), .val (.int eg), .val (.ref rr), .val (.int (eg - sg)), .val (.int (1 : Int32))] [(.int (eg - sg))])
            refine Go.of (fun _ => XS.iconst H24.here hx rfl (hb hby at_325)) ?_
            show Go p e below _ T23 (mkF m 326 #[.val (.int p0), .val (.int p1), .val (.int p2), .val (.int p3), .val (.int p4), .val (.int n1), .val (.ref b1), .val (.ref tx), .val (.int sg), .val (.int eg), .val (.ref rr), .val (.int (eg - sg)), .val (.int (1 : Int32))] [(.int (3 : Int32)), (.int (eg - sg))])
            by_cases hbr67 : (3 : Int32) < (eg - sg)
            · skip
              refine Go.of (fun _ => XS.icmpNo H24.here hx rfl (hb hby at_326) rfl (tlt hbr67).2.2.2) ?_
              show Go p e below _ T23 (mkF m 329 #[.val (.int p0), .val (.int p1), .val (.int p2), .val (.int p3), .val (.int p4), .val (.int n1), .val (.ref b1), .val (.ref tx), .val (.int sg), .val (.int eg), .val (.ref rr), .val (.int (eg - sg)), .val (.int (1 : Int32))] [])
              refine Go.of (fun _ => XS.iload H24.here hx rfl (hb hby at_329) rfl) ?_
              show Go p e below _ T23 (mkF m 331 #[.val (.int p0), .val (.int p1), .val (.int p2), .val (.int p3), .val (.int p4), .val (.int n1), .val (.ref b1), .val (.ref tx), .val (.int sg), .val (.int eg), .val (.ref rr), .val (.int (eg - sg)), .val (.int (1 : Int32))] [(.int (1 : Int32))])
              refine Go.of (fun _ => XS.ifNo H24.here hx rfl (hb hby at_331) rfl ((if0 _ _).trans (feq (by decide : ¬ ((1 : Int32) = (0 : Int32)))).1)) ?_
              show Go p e below _ T23 (mkF m 334 #[.val (.int p0), .val (.int p1), .val (.int p2), .val (.int p3), .val (.int p4), .val (.int n1), .val (.ref b1), .val (.ref tx), .val (.int sg), .val (.int eg), .val (.ref rr), .val (.int (eg - sg)), .val (.int (1 : Int32))] [])
              refine Go.of (fun _ => XS.aload H24.here hx rfl (hb hby at_334) rfl rfl) ?_
              show Go p e below _ T23 (mkF m 336 #[.val (.int p0), .val (.int p1), .val (.int p2), .val (.int p3), .val (.int p4), .val (.int n1), .val (.ref b1), .val (.ref tx), .val (.int sg), .val (.int eg), .val (.ref rr), .val (.int (eg - sg)), .val (.int (1 : Int32))] [(.ref rr)])
              refine Go.of (fun _ => XS.iconst H24.here hx rfl (hb hby at_336)) ?_
              show Go p e below _ T23 (mkF m 337 #[.val (.int p0), .val (.int p1), .val (.int p2), .val (.int p3), .val (.int p4), .val (.int n1), .val (.ref b1), .val (.ref tx), .val (.int sg), .val (.int eg), .val (.ref rr), .val (.int (eg - sg)), .val (.int (1 : Int32))] [(.int (3 : Int32)), (.ref rr)])
              have hi3 : 3 < eN - sN := (own_onlt (by decide) (by omega)).mp (hes ▸ hbr67)
              refine own_chS H24 hx hown (ow hw 121 rfl) (ow hw 74 rfl) (ow hw 76 rfl) (ow hw 75 rfl) (own_hwc hw) (ow hw 10 rfl) (i := 3) ST1 (by rw [hTl]; omega) hT (by rw [hTl]; exact hi3) rfl SC hzc SF hfm (W := 0) (by decide) (by decide) rfl (by rw [hml]; rfl) rfl (by show 2 * 0 + _ ≤ _; exact Nat.le_of_eq rfl) (hb hby at_337) (by decide) (by decide) fun T68 H69 => ?_
              show Go p e below _ T68 (mkF m 340 #[.val (.int p0), .val (.int p1), .val (.int p2), .val (.int p3), .val (.int p4), .val (.int n1), .val (.ref b1), .val (.ref tx), .val (.int sg), .val (.int eg), .val (.ref rr), .val (.int (eg - sg)), .val (.int (1 : Int32))] [(.int ((((([c0, c1, c2, c3] : List Int32).drop sN).take (eN - sN))).getD 3 0))])
              refine Go.of (fun _ => XS.aload H69.here hx rfl (hb hby at_340) rfl rfl) ?_
              show Go p e below _ T68 (mkF m 342 #[.val (.int p0), .val (.int p1), .val (.int p2), .val (.int p3), .val (.int p4), .val (.int n1), .val (.ref b1), .val (.ref tx), .val (.int sg), .val (.int eg), .val (.ref rr), .val (.int (eg - sg)), .val (.int (1 : Int32))] [(.ref b1), (.int ((((([c0, c1, c2, c3] : List Int32).drop sN).take (eN - sN))).getD 3 0))])
              refine Go.of (fun _ => XS.iload H69.here hx rfl (hb hby at_342) rfl) ?_
              show Go p e below _ T68 (mkF m 344 #[.val (.int p0), .val (.int p1), .val (.int p2), .val (.int p3), .val (.int p4), .val (.int n1), .val (.ref b1), .val (.ref tx), .val (.int sg), .val (.int eg), .val (.ref rr), .val (.int (eg - sg)), .val (.int (1 : Int32))] [(.int sg), (.ref b1), (.int ((((([c0, c1, c2, c3] : List Int32).drop sN).take (eN - sN))).getD 3 0))])
              refine Go.of (fun _ => XS.iconst H69.here hx rfl (hb hby at_344)) ?_
              show Go p e below _ T68 (mkF m 345 #[.val (.int p0), .val (.int p1), .val (.int p2), .val (.int p3), .val (.int p4), .val (.int n1), .val (.ref b1), .val (.ref tx), .val (.int sg), .val (.int eg), .val (.ref rr), .val (.int (eg - sg)), .val (.int (1 : Int32))] [(.int (3 : Int32)), (.int sg), (.ref b1), (.int ((((([c0, c1, c2, c3] : List Int32).drop sN).take (eN - sN))).getD 3 0))])
              refine Go.of (fun _ => XS.iadd H69.here hx rfl (hb hby at_345) rfl) ?_
              show Go p e below _ T68 (mkF m 346 #[.val (.int p0), .val (.int p1), .val (.int p2), .val (.int p3), .val (.int p4), .val (.int n1), .val (.ref b1), .val (.ref tx), .val (.int sg), .val (.int eg), .val (.ref rr), .val (.int (eg - sg)), .val (.int (1 : Int32))] [(.int (sg + (3 : Int32))), (.ref b1), (.int ((((([c0, c1, c2, c3] : List Int32).drop sN).take (eN - sN))).getD 3 0))])
              have hx3 : (sg + (3 : Int32)) = Int32.ofNat (sN + 3) := by rw [es]; exact own_onadd sN 3
              refine own_caload H69 hx f22 (by rw [hx3]; exact ⟨own_on0 (by omega), (own_onlt (b := 4) (by omega) (by decide)).mpr (by omega)⟩) (v := (.int ((((([c0, c1, c2, c3] : List Int32).drop sN).take (eN - sN))).getD 3 0))) (by rw [hx3, own_onc (by omega)]; exact own_at4 hi3) rfl rfl (hb hby at_346) ?_
              show Go p e below _ T68 (mkF m 347 #[.val (.int p0), .val (.int p1), .val (.int p2), .val (.int p3), .val (.int p4), .val (.int n1), .val (.ref b1), .val (.ref tx), .val (.int sg), .val (.int eg), .val (.ref rr), .val (.int (eg - sg)), .val (.int (1 : Int32))] [(.int ((((([c0, c1, c2, c3] : List Int32).drop sN).take (eN - sN))).getD 3 0)), (.int ((((([c0, c1, c2, c3] : List Int32).drop sN).take (eN - sN))).getD 3 0))])
              refine Go.of (fun _ => XS.icmpNo H69.here hx rfl (hb hby at_347) rfl (teq rfl).2) ?_
              show Go p e below _ T68 (mkF m 350 #[.val (.int p0), .val (.int p1), .val (.int p2), .val (.int p3), .val (.int p4), .val (.int n1), .val (.ref b1), .val (.ref tx), .val (.int sg), .val (.int eg), .val (.ref rr), .val (.int (eg - sg)), .val (.int (1 : Int32))] [])
              refine Go.of (fun _ => XS.iconst H69.here hx rfl (hb hby at_350)) ?_
              show Go p e below _ T68 (mkF m 351 #[.val (.int p0), .val (.int p1), .val (.int p2), .val (.int p3), .val (.int p4), .val (.int n1), .val (.ref b1), .val (.ref tx), .val (.int sg), .val (.int eg), .val (.ref rr), .val (.int (eg - sg)), .val (.int (1 : Int32))] [(.int (1 : Int32))])
              refine Go.of (fun _ => XS.goto H69.here hx rfl (pc0 := 351) (pc' := 355) rfl (hb hby at_351) (by decide) (by decide)) ?_
              show Go p e below _ T68 (mkF m 355 #[.val (.int p0), .val (.int p1), .val (.int p2), .val (.int p3), .val (.int p4), .val (.int n1), .val (.ref b1), .val (.ref tx), .val (.int sg), .val (.int eg), .val (.ref rr), .val (.int (eg - sg)), .val (.int (1 : Int32))] [(.int (1 : Int32))])
              refine Go.of (fun _ => XS.istore H69.here hx rfl (hb hby at_355) rfl (l' := #[.val (.int p0), .val (.int p1), .val (.int p2), .val (.int p3), .val (.int p4), .val (.int n1), .val (.ref b1), .val (.ref tx), .val (.int sg), .val (.int eg), .val (.ref rr), .val (.int (eg - sg)), .val (.int (1 : Int32))]) rfl) ?_
              show Go p e below _ T68 (mkF m 357 #[.val (.int p0), .val (.int p1), .val (.int p2), .val (.int p3), .val (.int p4), .val (.int n1), .val (.ref b1), .val (.ref tx), .val (.int sg), .val (.int eg), .val (.ref rr), .val (.int (eg - sg)), .val (.int (1 : Int32))] [])
              refine Go.of (fun _ => XS.iload H69.here hx rfl (hb hby at_357) rfl) ?_
              show Go p e below _ T68 (mkF m 359 #[.val (.int p0), .val (.int p1), .val (.int p2), .val (.int p3), .val (.int p4), .val (.int n1), .val (.ref b1), .val (.ref tx), .val (.int sg), .val (.int eg), .val (.ref rr), .val (.int (eg - sg)), .val (.int (1 : Int32))] [(.int (1 : Int32))])
              exact own_retN H69 hx hlk (t := .boolean) hret (by simp) (hb hby at_359) rfl (by decide) (by decide)
            · skip
              refine Go.of (fun _ => XS.icmpYes H24.here hx rfl (pc0 := 326) (pc' := 357) rfl (hb hby at_326) rfl (flt hbr67).2.2.2 (by decide) (by decide)) ?_
              show Go p e below _ T23 (mkF m 357 #[.val (.int p0), .val (.int p1), .val (.int p2), .val (.int p3), .val (.int p4), .val (.int n1), .val (.ref b1), .val (.ref tx), .val (.int sg), .val (.int eg), .val (.ref rr), .val (.int (eg - sg)), .val (.int (1 : Int32))] [])
              refine Go.of (fun _ => XS.iload H24.here hx rfl (hb hby at_357) rfl) ?_
              show Go p e below _ T23 (mkF m 359 #[.val (.int p0), .val (.int p1), .val (.int p2), .val (.int p3), .val (.int p4), .val (.int n1), .val (.ref b1), .val (.ref tx), .val (.int sg), .val (.int eg), .val (.ref rr), .val (.int (eg - sg)), .val (.int (1 : Int32))] [(.int (1 : Int32))])
              exact own_retN H24 hx hlk (t := .boolean) hret (by simp) (hb hby at_359) rfl (by decide) (by decide)
    have J123_70 : ∀ (T71 : State) (h72 : Heap) (sg : Int32), (Wk p l e room_1 s m #[(.int p0), (.int p1), (.int p2), (.int p3), (.int p4)] below meth c Z ELx a0 true T71 h72 7 18 []) → (Arv Z h72 b1 kA .char (4 : Int32) [.int c0, .int c1, .int c2, .int c3] (.int (0 : Int32))) → (own_str Z h72 tx (own_tk n1 c0 c1 c2 c3)) → (sg = own_sta n1 c0 c1 c2 c3) → Go p e below (own_fin Z ELx true s below (fun v h => v = some (.int 1)) (room_1).cells (room_1).slots) T71 (mkF m 123 #[.val (.int p0), .val (.int p1), .val (.int p2), .val (.int p3), .val (.int p4), .val (.int n1), .val (.ref b1), .val (.ref tx), .val (.int sg), .unset, .unset, .unset, .unset] []) := by
      intro T71 h72 sg H73 V0 SM hsg
      show Go p e below _ T71 (mkF m 123 #[.val (.int p0), .val (.int p1), .val (.int p2), .val (.int p3), .val (.int p4), .val (.int n1), .val (.ref b1), .val (.ref tx), .val (.int sg), .unset, .unset, .unset, .unset] [])
      refine Go.of (fun _ => XS.aload H73.here hx rfl (hb hby at_123) rfl rfl) ?_
      show Go p e below _ T71 (mkF m 125 #[.val (.int p0), .val (.int p1), .val (.int p2), .val (.int p3), .val (.int p4), .val (.int n1), .val (.ref b1), .val (.ref tx), .val (.int sg), .unset, .unset, .unset, .unset] [(.ref b1)])
      refine Go.of (fun _ => XS.iload H73.here hx rfl (hb hby at_125) rfl) ?_
      show Go p e below _ T71 (mkF m 127 #[.val (.int p0), .val (.int p1), .val (.int p2), .val (.int p3), .val (.int p4), .val (.int n1), .val (.ref b1), .val (.ref tx), .val (.int sg), .unset, .unset, .unset, .unset] [(.int n1), (.ref b1)])
      refine Go.of (fun _ => XS.iconst H73.here hx rfl (hb hby at_127)) ?_
      show Go p e below _ T71 (mkF m 128 #[.val (.int p0), .val (.int p1), .val (.int p2), .val (.int p3), .val (.int p4), .val (.int n1), .val (.ref b1), .val (.ref tx), .val (.int sg), .unset, .unset, .unset, .unset] [(.int (3 : Int32)), (.int n1), (.ref b1)])
      refine own_staticW H73 hx (y := (⟨"com/example/brokerward/brokerward/http/RequestHeadTrimPinLaw", "kept", "([CII)Z"⟩ : MethodName)) hown (ow hw 30 rfl) (ow hw 31 rfl) (ow hw 4 rfl) (ow hw 32 rfl) (by decide) (W := 0) (rm_kept l Z a0 hw hE b1 kA c0 c1 c2 c3 n1 (3 : Int32) c3 h72 H73.old V0 (by decide) rfl) (fun _ hq => nomatch hq) (by decide) (by decide) rfl (by rw [hml]; rfl) (argsL := [(.ref b1), (.int n1), (.int (3 : Int32))]) (rest := []) rfl (lenOf pd_14 rfl) rfl (by show 2 * 0 + _ ≤ _; exact Nat.le_of_eq rfl) (hb hby at_128) (by decide) (by decide) fun T74 h76 v78 H75 hs79 q77 => ?_
      obtain ⟨ve81, e80⟩ := q77
      subst e80
      subst ve81
      show Go p e below _ T74 (mkF m 131 #[.val (.int p0), .val (.int p1), .val (.int p2), .val (.int p3), .val (.int p4), .val (.int n1), .val (.ref b1), .val (.ref tx), .val (.int sg), .unset, .unset, .unset, .unset] [(.int (if (3 : Int32) < n1 ∧ own_bl c3 = false then 1 else 0))])
      by_cases hq82 : (3 : Int32) < n1 ∧ own_bl c3 = false
      · skip
        rw [if_pos hq82]
        show Go p e below _ T74 (mkF m 131 #[.val (.int p0), .val (.int p1), .val (.int p2), .val (.int p3), .val (.int p4), .val (.int n1), .val (.ref b1), .val (.ref tx), .val (.int sg), .unset, .unset, .unset, .unset] [(.int (1 : Int32))])
        refine Go.of (fun _ => XS.ifNo H75.here hx rfl (hb hby at_131) rfl ((if0 _ _).trans (feq (by decide : ¬ ((1 : Int32) = (0 : Int32)))).1)) ?_
        show Go p e below _ T74 (mkF m 134 #[.val (.int p0), .val (.int p1), .val (.int p2), .val (.int p3), .val (.int p4), .val (.int n1), .val (.ref b1), .val (.ref tx), .val (.int sg), .unset, .unset, .unset, .unset] [])
        refine Go.of (fun _ => XS.iconst H75.here hx rfl (hb hby at_134)) ?_
        show Go p e below _ T74 (mkF m 135 #[.val (.int p0), .val (.int p1), .val (.int p2), .val (.int p3), .val (.int p4), .val (.int n1), .val (.ref b1), .val (.ref tx), .val (.int sg), .unset, .unset, .unset, .unset] [(.int (4 : Int32))])
        refine Go.of (fun _ => XS.istore H75.here hx rfl (hb hby at_135) rfl (l' := #[.val (.int p0), .val (.int p1), .val (.int p2), .val (.int p3), .val (.int p4), .val (.int n1), .val (.ref b1), .val (.ref tx), .val (.int sg), .val (.int (4 : Int32)), .unset, .unset, .unset]) rfl) ?_
        show Go p e below _ T74 (mkF m 137 #[.val (.int p0), .val (.int p1), .val (.int p2), .val (.int p3), .val (.int p4), .val (.int n1), .val (.ref b1), .val (.ref tx), .val (.int sg), .val (.int (4 : Int32)), .unset, .unset, .unset] [])
        refine Go.of (fun _ => XS.goto H75.here hx rfl (pc0 := 137) (pc' := 195) rfl (hb hby at_137) (by decide) (by decide)) ?_
        show Go p e below _ T74 (mkF m 195 #[.val (.int p0), .val (.int p1), .val (.int p2), .val (.int p3), .val (.int p4), .val (.int n1), .val (.ref b1), .val (.ref tx), .val (.int sg), .val (.int (4 : Int32)), .unset, .unset, .unset] [])
        exact J195_12 T74 h72 sg (4 : Int32) ((H75.more (k' := 7) (n' := 18) (by decide) (by decide)).less (fun _ hq => nomatch hq)) V0 SM hsg (by unfold own_ege; rw [if_pos hq82])
      · skip
        rw [if_neg hq82]
        show Go p e below _ T74 (mkF m 131 #[.val (.int p0), .val (.int p1), .val (.int p2), .val (.int p3), .val (.int p4), .val (.int n1), .val (.ref b1), .val (.ref tx), .val (.int sg), .unset, .unset, .unset, .unset] [(.int (0 : Int32))])
        refine Go.of (fun _ => XS.ifYes H75.here hx rfl (pc0 := 131) (pc' := 140) rfl (hb hby at_131) rfl ((if0 _ _).trans (teq (by decide : (0 : Int32) = (0 : Int32))).1) (by decide) (by decide)) ?_
        show Go p e below _ T74 (mkF m 140 #[.val (.int p0), .val (.int p1), .val (.int p2), .val (.int p3), .val (.int p4), .val (.int n1), .val (.ref b1), .val (.ref tx), .val (.int sg), .unset, .unset, .unset, .unset] [])
        refine Go.of (fun _ => XS.aload H75.here hx rfl (hb hby at_140) rfl rfl) ?_
        show Go p e below _ T74 (mkF m 142 #[.val (.int p0), .val (.int p1), .val (.int p2), .val (.int p3), .val (.int p4), .val (.int n1), .val (.ref b1), .val (.ref tx), .val (.int sg), .unset, .unset, .unset, .unset] [(.ref b1)])
        refine Go.of (fun _ => XS.iload H75.here hx rfl (hb hby at_142) rfl) ?_
        show Go p e below _ T74 (mkF m 144 #[.val (.int p0), .val (.int p1), .val (.int p2), .val (.int p3), .val (.int p4), .val (.int n1), .val (.ref b1), .val (.ref tx), .val (.int sg), .unset, .unset, .unset, .unset] [(.int n1), (.ref b1)])
        refine Go.of (fun _ => XS.iconst H75.here hx rfl (hb hby at_144)) ?_
        show Go p e below _ T74 (mkF m 145 #[.val (.int p0), .val (.int p1), .val (.int p2), .val (.int p3), .val (.int p4), .val (.int n1), .val (.ref b1), .val (.ref tx), .val (.int sg), .unset, .unset, .unset, .unset] [(.int (2 : Int32)), (.int n1), (.ref b1)])
        refine own_staticW H75 hx (y := (⟨"com/example/brokerward/brokerward/http/RequestHeadTrimPinLaw", "kept", "([CII)Z"⟩ : MethodName)) hown (ow hw 30 rfl) (ow hw 31 rfl) (ow hw 4 rfl) (ow hw 32 rfl) (by decide) (W := 0) (rm_kept l Z a0 hw hE b1 kA c0 c1 c2 c3 n1 (2 : Int32) c2 h72 H75.old V0 (by decide) rfl) (fun _ hq => nomatch hq) (by decide) (by decide) rfl (by rw [hml]; rfl) (argsL := [(.ref b1), (.int n1), (.int (2 : Int32))]) (rest := []) rfl (lenOf pd_14 rfl) rfl (by show 2 * 0 + _ ≤ _; exact Nat.le_of_eq rfl) (hb hby at_145) (by decide) (by decide) fun T83 h85 v87 H84 hs88 q86 => ?_
        obtain ⟨ve90, e89⟩ := q86
        subst e89
        subst ve90
        show Go p e below _ T83 (mkF m 148 #[.val (.int p0), .val (.int p1), .val (.int p2), .val (.int p3), .val (.int p4), .val (.int n1), .val (.ref b1), .val (.ref tx), .val (.int sg), .unset, .unset, .unset, .unset] [(.int (if (2 : Int32) < n1 ∧ own_bl c2 = false then 1 else 0))])
        by_cases hq91 : (2 : Int32) < n1 ∧ own_bl c2 = false
        · skip
          rw [if_pos hq91]
          show Go p e below _ T83 (mkF m 148 #[.val (.int p0), .val (.int p1), .val (.int p2), .val (.int p3), .val (.int p4), .val (.int n1), .val (.ref b1), .val (.ref tx), .val (.int sg), .unset, .unset, .unset, .unset] [(.int (1 : Int32))])
          refine Go.of (fun _ => XS.ifNo H84.here hx rfl (hb hby at_148) rfl ((if0 _ _).trans (feq (by decide : ¬ ((1 : Int32) = (0 : Int32)))).1)) ?_
          show Go p e below _ T83 (mkF m 151 #[.val (.int p0), .val (.int p1), .val (.int p2), .val (.int p3), .val (.int p4), .val (.int n1), .val (.ref b1), .val (.ref tx), .val (.int sg), .unset, .unset, .unset, .unset] [])
          refine Go.of (fun _ => XS.iconst H84.here hx rfl (hb hby at_151)) ?_
          show Go p e below _ T83 (mkF m 152 #[.val (.int p0), .val (.int p1), .val (.int p2), .val (.int p3), .val (.int p4), .val (.int n1), .val (.ref b1), .val (.ref tx), .val (.int sg), .unset, .unset, .unset, .unset] [(.int (3 : Int32))])
          refine Go.of (fun _ => XS.istore H84.here hx rfl (hb hby at_152) rfl (l' := #[.val (.int p0), .val (.int p1), .val (.int p2), .val (.int p3), .val (.int p4), .val (.int n1), .val (.ref b1), .val (.ref tx), .val (.int sg), .val (.int (3 : Int32)), .unset, .unset, .unset]) rfl) ?_
          show Go p e below _ T83 (mkF m 154 #[.val (.int p0), .val (.int p1), .val (.int p2), .val (.int p3), .val (.int p4), .val (.int n1), .val (.ref b1), .val (.ref tx), .val (.int sg), .val (.int (3 : Int32)), .unset, .unset, .unset] [])
          refine Go.of (fun _ => XS.goto H84.here hx rfl (pc0 := 154) (pc' := 195) rfl (hb hby at_154) (by decide) (by decide)) ?_
          show Go p e below _ T83 (mkF m 195 #[.val (.int p0), .val (.int p1), .val (.int p2), .val (.int p3), .val (.int p4), .val (.int n1), .val (.ref b1), .val (.ref tx), .val (.int sg), .val (.int (3 : Int32)), .unset, .unset, .unset] [])
          exact J195_12 T83 h72 sg (3 : Int32) ((H84.more (k' := 7) (n' := 18) (by decide) (by decide)).less (fun _ hq => nomatch hq)) V0 SM hsg (by unfold own_ege; rw [if_neg hq82, if_pos hq91])
        · skip
          rw [if_neg hq91]
          show Go p e below _ T83 (mkF m 148 #[.val (.int p0), .val (.int p1), .val (.int p2), .val (.int p3), .val (.int p4), .val (.int n1), .val (.ref b1), .val (.ref tx), .val (.int sg), .unset, .unset, .unset, .unset] [(.int (0 : Int32))])
          refine Go.of (fun _ => XS.ifYes H84.here hx rfl (pc0 := 148) (pc' := 157) rfl (hb hby at_148) rfl ((if0 _ _).trans (teq (by decide : (0 : Int32) = (0 : Int32))).1) (by decide) (by decide)) ?_
          show Go p e below _ T83 (mkF m 157 #[.val (.int p0), .val (.int p1), .val (.int p2), .val (.int p3), .val (.int p4), .val (.int n1), .val (.ref b1), .val (.ref tx), .val (.int sg), .unset, .unset, .unset, .unset] [])
          refine Go.of (fun _ => XS.aload H84.here hx rfl (hb hby at_157) rfl rfl) ?_
          show Go p e below _ T83 (mkF m 159 #[.val (.int p0), .val (.int p1), .val (.int p2), .val (.int p3), .val (.int p4), .val (.int n1), .val (.ref b1), .val (.ref tx), .val (.int sg), .unset, .unset, .unset, .unset] [(.ref b1)])
          refine Go.of (fun _ => XS.iload H84.here hx rfl (hb hby at_159) rfl) ?_
          show Go p e below _ T83 (mkF m 161 #[.val (.int p0), .val (.int p1), .val (.int p2), .val (.int p3), .val (.int p4), .val (.int n1), .val (.ref b1), .val (.ref tx), .val (.int sg), .unset, .unset, .unset, .unset] [(.int n1), (.ref b1)])
          refine Go.of (fun _ => XS.iconst H84.here hx rfl (hb hby at_161)) ?_
          show Go p e below _ T83 (mkF m 162 #[.val (.int p0), .val (.int p1), .val (.int p2), .val (.int p3), .val (.int p4), .val (.int n1), .val (.ref b1), .val (.ref tx), .val (.int sg), .unset, .unset, .unset, .unset] [(.int (1 : Int32)), (.int n1), (.ref b1)])
          refine own_staticW H84 hx (y := (⟨"com/example/brokerward/brokerward/http/RequestHeadTrimPinLaw", "kept", "([CII)Z"⟩ : MethodName)) hown (ow hw 30 rfl) (ow hw 31 rfl) (ow hw 4 rfl) (ow hw 32 rfl) (by decide) (W := 0) (rm_kept l Z a0 hw hE b1 kA c0 c1 c2 c3 n1 (1 : Int32) c1 h72 H84.old V0 (by decide) rfl) (fun _ hq => nomatch hq) (by decide) (by decide) rfl (by rw [hml]; rfl) (argsL := [(.ref b1), (.int n1), (.int (1 : Int32))]) (rest := []) rfl (lenOf pd_14 rfl) rfl (by show 2 * 0 + _ ≤ _; exact Nat.le_of_eq rfl) (hb hby at_162) (by decide) (by decide) fun T92 h94 v96 H93 hs97 q95 => ?_
          obtain ⟨ve99, e98⟩ := q95
          subst e98
          subst ve99
          show Go p e below _ T92 (mkF m 165 #[.val (.int p0), .val (.int p1), .val (.int p2), .val (.int p3), .val (.int p4), .val (.int n1), .val (.ref b1), .val (.ref tx), .val (.int sg), .unset, .unset, .unset, .unset] [(.int (if (1 : Int32) < n1 ∧ own_bl c1 = false then 1 else 0))])
          by_cases hq100 : (1 : Int32) < n1 ∧ own_bl c1 = false
          · skip
            rw [if_pos hq100]
            show Go p e below _ T92 (mkF m 165 #[.val (.int p0), .val (.int p1), .val (.int p2), .val (.int p3), .val (.int p4), .val (.int n1), .val (.ref b1), .val (.ref tx), .val (.int sg), .unset, .unset, .unset, .unset] [(.int (1 : Int32))])
            refine Go.of (fun _ => XS.ifNo H93.here hx rfl (hb hby at_165) rfl ((if0 _ _).trans (feq (by decide : ¬ ((1 : Int32) = (0 : Int32)))).1)) ?_
            show Go p e below _ T92 (mkF m 168 #[.val (.int p0), .val (.int p1), .val (.int p2), .val (.int p3), .val (.int p4), .val (.int n1), .val (.ref b1), .val (.ref tx), .val (.int sg), .unset, .unset, .unset, .unset] [])
            refine Go.of (fun _ => XS.iconst H93.here hx rfl (hb hby at_168)) ?_
            show Go p e below _ T92 (mkF m 169 #[.val (.int p0), .val (.int p1), .val (.int p2), .val (.int p3), .val (.int p4), .val (.int n1), .val (.ref b1), .val (.ref tx), .val (.int sg), .unset, .unset, .unset, .unset] [(.int (2 : Int32))])
            refine Go.of (fun _ => XS.istore H93.here hx rfl (hb hby at_169) rfl (l' := #[.val (.int p0), .val (.int p1), .val (.int p2), .val (.int p3), .val (.int p4), .val (.int n1), .val (.ref b1), .val (.ref tx), .val (.int sg), .val (.int (2 : Int32)), .unset, .unset, .unset]) rfl) ?_
            show Go p e below _ T92 (mkF m 171 #[.val (.int p0), .val (.int p1), .val (.int p2), .val (.int p3), .val (.int p4), .val (.int n1), .val (.ref b1), .val (.ref tx), .val (.int sg), .val (.int (2 : Int32)), .unset, .unset, .unset] [])
            refine Go.of (fun _ => XS.goto H93.here hx rfl (pc0 := 171) (pc' := 195) rfl (hb hby at_171) (by decide) (by decide)) ?_
            show Go p e below _ T92 (mkF m 195 #[.val (.int p0), .val (.int p1), .val (.int p2), .val (.int p3), .val (.int p4), .val (.int n1), .val (.ref b1), .val (.ref tx), .val (.int sg), .val (.int (2 : Int32)), .unset, .unset, .unset] [])
            exact J195_12 T92 h72 sg (2 : Int32) ((H93.more (k' := 7) (n' := 18) (by decide) (by decide)).less (fun _ hq => nomatch hq)) V0 SM hsg (by unfold own_ege; rw [if_neg hq82, if_neg hq91, if_pos hq100])
          · skip
            rw [if_neg hq100]
            show Go p e below _ T92 (mkF m 165 #[.val (.int p0), .val (.int p1), .val (.int p2), .val (.int p3), .val (.int p4), .val (.int n1), .val (.ref b1), .val (.ref tx), .val (.int sg), .unset, .unset, .unset, .unset] [(.int (0 : Int32))])
            refine Go.of (fun _ => XS.ifYes H93.here hx rfl (pc0 := 165) (pc' := 174) rfl (hb hby at_165) rfl ((if0 _ _).trans (teq (by decide : (0 : Int32) = (0 : Int32))).1) (by decide) (by decide)) ?_
            show Go p e below _ T92 (mkF m 174 #[.val (.int p0), .val (.int p1), .val (.int p2), .val (.int p3), .val (.int p4), .val (.int n1), .val (.ref b1), .val (.ref tx), .val (.int sg), .unset, .unset, .unset, .unset] [])
            refine Go.of (fun _ => XS.aload H93.here hx rfl (hb hby at_174) rfl rfl) ?_
            show Go p e below _ T92 (mkF m 176 #[.val (.int p0), .val (.int p1), .val (.int p2), .val (.int p3), .val (.int p4), .val (.int n1), .val (.ref b1), .val (.ref tx), .val (.int sg), .unset, .unset, .unset, .unset] [(.ref b1)])
            refine Go.of (fun _ => XS.iload H93.here hx rfl (hb hby at_176) rfl) ?_
            show Go p e below _ T92 (mkF m 178 #[.val (.int p0), .val (.int p1), .val (.int p2), .val (.int p3), .val (.int p4), .val (.int n1), .val (.ref b1), .val (.ref tx), .val (.int sg), .unset, .unset, .unset, .unset] [(.int n1), (.ref b1)])
            refine Go.of (fun _ => XS.iconst H93.here hx rfl (hb hby at_178)) ?_
            show Go p e below _ T92 (mkF m 179 #[.val (.int p0), .val (.int p1), .val (.int p2), .val (.int p3), .val (.int p4), .val (.int n1), .val (.ref b1), .val (.ref tx), .val (.int sg), .unset, .unset, .unset, .unset] [(.int (0 : Int32)), (.int n1), (.ref b1)])
            refine own_staticW H93 hx (y := (⟨"com/example/brokerward/brokerward/http/RequestHeadTrimPinLaw", "kept", "([CII)Z"⟩ : MethodName)) hown (ow hw 30 rfl) (ow hw 31 rfl) (ow hw 4 rfl) (ow hw 32 rfl) (by decide) (W := 0) (rm_kept l Z a0 hw hE b1 kA c0 c1 c2 c3 n1 (0 : Int32) c0 h72 H93.old V0 (by decide) rfl) (fun _ hq => nomatch hq) (by decide) (by decide) rfl (by rw [hml]; rfl) (argsL := [(.ref b1), (.int n1), (.int (0 : Int32))]) (rest := []) rfl (lenOf pd_14 rfl) rfl (by show 2 * 0 + _ ≤ _; exact Nat.le_of_eq rfl) (hb hby at_179) (by decide) (by decide) fun T101 h103 v105 H102 hs106 q104 => ?_
            obtain ⟨ve108, e107⟩ := q104
            subst e107
            subst ve108
            show Go p e below _ T101 (mkF m 182 #[.val (.int p0), .val (.int p1), .val (.int p2), .val (.int p3), .val (.int p4), .val (.int n1), .val (.ref b1), .val (.ref tx), .val (.int sg), .unset, .unset, .unset, .unset] [(.int (if (0 : Int32) < n1 ∧ own_bl c0 = false then 1 else 0))])
            by_cases hq109 : (0 : Int32) < n1 ∧ own_bl c0 = false
            · skip
              rw [if_pos hq109]
              show Go p e below _ T101 (mkF m 182 #[.val (.int p0), .val (.int p1), .val (.int p2), .val (.int p3), .val (.int p4), .val (.int n1), .val (.ref b1), .val (.ref tx), .val (.int sg), .unset, .unset, .unset, .unset] [(.int (1 : Int32))])
              refine Go.of (fun _ => XS.ifNo H102.here hx rfl (hb hby at_182) rfl ((if0 _ _).trans (feq (by decide : ¬ ((1 : Int32) = (0 : Int32)))).1)) ?_
              show Go p e below _ T101 (mkF m 185 #[.val (.int p0), .val (.int p1), .val (.int p2), .val (.int p3), .val (.int p4), .val (.int n1), .val (.ref b1), .val (.ref tx), .val (.int sg), .unset, .unset, .unset, .unset] [])
              refine Go.of (fun _ => XS.iconst H102.here hx rfl (hb hby at_185)) ?_
              show Go p e below _ T101 (mkF m 186 #[.val (.int p0), .val (.int p1), .val (.int p2), .val (.int p3), .val (.int p4), .val (.int n1), .val (.ref b1), .val (.ref tx), .val (.int sg), .unset, .unset, .unset, .unset] [(.int (1 : Int32))])
              refine Go.of (fun _ => XS.istore H102.here hx rfl (hb hby at_186) rfl (l' := #[.val (.int p0), .val (.int p1), .val (.int p2), .val (.int p3), .val (.int p4), .val (.int n1), .val (.ref b1), .val (.ref tx), .val (.int sg), .val (.int (1 : Int32)), .unset, .unset, .unset]) rfl) ?_
              show Go p e below _ T101 (mkF m 188 #[.val (.int p0), .val (.int p1), .val (.int p2), .val (.int p3), .val (.int p4), .val (.int n1), .val (.ref b1), .val (.ref tx), .val (.int sg), .val (.int (1 : Int32)), .unset, .unset, .unset] [])
              refine Go.of (fun _ => XS.goto H102.here hx rfl (pc0 := 188) (pc' := 195) rfl (hb hby at_188) (by decide) (by decide)) ?_
              show Go p e below _ T101 (mkF m 195 #[.val (.int p0), .val (.int p1), .val (.int p2), .val (.int p3), .val (.int p4), .val (.int n1), .val (.ref b1), .val (.ref tx), .val (.int sg), .val (.int (1 : Int32)), .unset, .unset, .unset] [])
              exact J195_12 T101 h72 sg (1 : Int32) ((H102.more (k' := 7) (n' := 18) (by decide) (by decide)).less (fun _ hq => nomatch hq)) V0 SM hsg (by unfold own_ege; rw [if_neg hq82, if_neg hq91, if_neg hq100, if_pos hq109])
            · skip
              rw [if_neg hq109]
              show Go p e below _ T101 (mkF m 182 #[.val (.int p0), .val (.int p1), .val (.int p2), .val (.int p3), .val (.int p4), .val (.int n1), .val (.ref b1), .val (.ref tx), .val (.int sg), .unset, .unset, .unset, .unset] [(.int (0 : Int32))])
              refine Go.of (fun _ => XS.ifYes H102.here hx rfl (pc0 := 182) (pc' := 191) rfl (hb hby at_182) rfl ((if0 _ _).trans (teq (by decide : (0 : Int32) = (0 : Int32))).1) (by decide) (by decide)) ?_
              show Go p e below _ T101 (mkF m 191 #[.val (.int p0), .val (.int p1), .val (.int p2), .val (.int p3), .val (.int p4), .val (.int n1), .val (.ref b1), .val (.ref tx), .val (.int sg), .unset, .unset, .unset, .unset] [])
              refine Go.of (fun _ => XS.iload H102.here hx rfl (hb hby at_191) rfl) ?_
              show Go p e below _ T101 (mkF m 193 #[.val (.int p0), .val (.int p1), .val (.int p2), .val (.int p3), .val (.int p4), .val (.int n1), .val (.ref b1), .val (.ref tx), .val (.int sg), .unset, .unset, .unset, .unset] [(.int sg)])
              refine Go.of (fun _ => XS.istore H102.here hx rfl (hb hby at_193) rfl (l' := #[.val (.int p0), .val (.int p1), .val (.int p2), .val (.int p3), .val (.int p4), .val (.int n1), .val (.ref b1), .val (.ref tx), .val (.int sg), .val (.int sg), .unset, .unset, .unset]) rfl) ?_
              show Go p e below _ T101 (mkF m 195 #[.val (.int p0), .val (.int p1), .val (.int p2), .val (.int p3), .val (.int p4), .val (.int n1), .val (.ref b1), .val (.ref tx), .val (.int sg), .val (.int sg), .unset, .unset, .unset] [])
              exact J195_12 T101 h72 sg sg ((H102.more (k' := 7) (n' := 18) (by decide) (by decide)).less (fun _ hq => nomatch hq)) V0 SM hsg (by unfold own_ege; rw [if_neg hq82, if_neg hq91, if_neg hq100, if_neg hq109])
    show Go p e below _ T5 (mkF m 51 #[.val (.int p0), .val (.int p1), .val (.int p2), .val (.int p3), .val (.int p4), .val (.int n1), .val (.ref b1), .val (.ref tx), .unset, .unset, .unset, .unset, .unset] [])
    refine Go.of (fun _ => XS.aload H6.here hx rfl (hb hby at_51) rfl rfl) ?_
    show Go p e below _ T5 (mkF m 53 #[.val (.int p0), .val (.int p1), .val (.int p2), .val (.int p3), .val (.int p4), .val (.int n1), .val (.ref b1), .val (.ref tx), .unset, .unset, .unset, .unset, .unset] [(.ref b1)])
    refine Go.of (fun _ => XS.iload H6.here hx rfl (hb hby at_53) rfl) ?_
    show Go p e below _ T5 (mkF m 55 #[.val (.int p0), .val (.int p1), .val (.int p2), .val (.int p3), .val (.int p4), .val (.int n1), .val (.ref b1), .val (.ref tx), .unset, .unset, .unset, .unset, .unset] [(.int n1), (.ref b1)])
    refine Go.of (fun _ => XS.iconst H6.here hx rfl (hb hby at_55)) ?_
    show Go p e below _ T5 (mkF m 56 #[.val (.int p0), .val (.int p1), .val (.int p2), .val (.int p3), .val (.int p4), .val (.int n1), .val (.ref b1), .val (.ref tx), .unset, .unset, .unset, .unset, .unset] [(.int (0 : Int32)), (.int n1), (.ref b1)])
    refine own_staticW H6 hx (y := (⟨"com/example/brokerward/brokerward/http/RequestHeadTrimPinLaw", "kept", "([CII)Z"⟩ : MethodName)) hown (ow hw 30 rfl) (ow hw 31 rfl) (ow hw 4 rfl) (ow hw 32 rfl) (by decide) (W := 0) (rm_kept l Z a0 hw hE b1 kA c0 c1 c2 c3 n1 (0 : Int32) c0 h7 H6.old f11 (by decide) rfl) (fun _ hq => nomatch hq) (by decide) (by decide) rfl (by rw [hml]; rfl) (argsL := [(.ref b1), (.int n1), (.int (0 : Int32))]) (rest := []) rfl (lenOf pd_14 rfl) rfl (by show 2 * 0 + _ ≤ _; exact Nat.le_of_eq rfl) (hb hby at_56) (by decide) (by decide) fun T110 h112 v114 H111 hs115 q113 => ?_
    obtain ⟨ve117, e116⟩ := q113
    subst e116
    subst ve117
    show Go p e below _ T110 (mkF m 59 #[.val (.int p0), .val (.int p1), .val (.int p2), .val (.int p3), .val (.int p4), .val (.int n1), .val (.ref b1), .val (.ref tx), .unset, .unset, .unset, .unset, .unset] [(.int (if (0 : Int32) < n1 ∧ own_bl c0 = false then 1 else 0))])
    by_cases hq118 : (0 : Int32) < n1 ∧ own_bl c0 = false
    · skip
      rw [if_pos hq118]
      show Go p e below _ T110 (mkF m 59 #[.val (.int p0), .val (.int p1), .val (.int p2), .val (.int p3), .val (.int p4), .val (.int n1), .val (.ref b1), .val (.ref tx), .unset, .unset, .unset, .unset, .unset] [(.int (1 : Int32))])
      refine Go.of (fun _ => XS.ifNo H111.here hx rfl (hb hby at_59) rfl ((if0 _ _).trans (feq (by decide : ¬ ((1 : Int32) = (0 : Int32)))).1)) ?_
      show Go p e below _ T110 (mkF m 62 #[.val (.int p0), .val (.int p1), .val (.int p2), .val (.int p3), .val (.int p4), .val (.int n1), .val (.ref b1), .val (.ref tx), .unset, .unset, .unset, .unset, .unset] [])
      refine Go.of (fun _ => XS.iconst H111.here hx rfl (hb hby at_62)) ?_
      show Go p e below _ T110 (mkF m 63 #[.val (.int p0), .val (.int p1), .val (.int p2), .val (.int p3), .val (.int p4), .val (.int n1), .val (.ref b1), .val (.ref tx), .unset, .unset, .unset, .unset, .unset] [(.int (0 : Int32))])
      refine Go.of (fun _ => XS.istore H111.here hx rfl (hb hby at_63) rfl (l' := #[.val (.int p0), .val (.int p1), .val (.int p2), .val (.int p3), .val (.int p4), .val (.int n1), .val (.ref b1), .val (.ref tx), .val (.int (0 : Int32)), .unset, .unset, .unset, .unset]) rfl) ?_
      show Go p e below _ T110 (mkF m 65 #[.val (.int p0), .val (.int p1), .val (.int p2), .val (.int p3), .val (.int p4), .val (.int n1), .val (.ref b1), .val (.ref tx), .val (.int (0 : Int32)), .unset, .unset, .unset, .unset] [])
      refine Go.of (fun _ => XS.goto H111.here hx rfl (pc0 := 65) (pc' := 123) rfl (hb hby at_65) (by decide) (by decide)) ?_
      show Go p e below _ T110 (mkF m 123 #[.val (.int p0), .val (.int p1), .val (.int p2), .val (.int p3), .val (.int p4), .val (.int n1), .val (.ref b1), .val (.ref tx), .val (.int (0 : Int32)), .unset, .unset, .unset, .unset] [])
      exact J123_70 T110 h7 (0 : Int32) ((H111.more (k' := 7) (n' := 18) (by decide) (by decide)).less (fun _ hq => nomatch hq)) f11 SM (by unfold own_sta; rw [if_pos hq118])
    · skip
      rw [if_neg hq118]
      show Go p e below _ T110 (mkF m 59 #[.val (.int p0), .val (.int p1), .val (.int p2), .val (.int p3), .val (.int p4), .val (.int n1), .val (.ref b1), .val (.ref tx), .unset, .unset, .unset, .unset, .unset] [(.int (0 : Int32))])
      refine Go.of (fun _ => XS.ifYes H111.here hx rfl (pc0 := 59) (pc' := 68) rfl (hb hby at_59) rfl ((if0 _ _).trans (teq (by decide : (0 : Int32) = (0 : Int32))).1) (by decide) (by decide)) ?_
      show Go p e below _ T110 (mkF m 68 #[.val (.int p0), .val (.int p1), .val (.int p2), .val (.int p3), .val (.int p4), .val (.int n1), .val (.ref b1), .val (.ref tx), .unset, .unset, .unset, .unset, .unset] [])
      refine Go.of (fun _ => XS.aload H111.here hx rfl (hb hby at_68) rfl rfl) ?_
      show Go p e below _ T110 (mkF m 70 #[.val (.int p0), .val (.int p1), .val (.int p2), .val (.int p3), .val (.int p4), .val (.int n1), .val (.ref b1), .val (.ref tx), .unset, .unset, .unset, .unset, .unset] [(.ref b1)])
      refine Go.of (fun _ => XS.iload H111.here hx rfl (hb hby at_70) rfl) ?_
      show Go p e below _ T110 (mkF m 72 #[.val (.int p0), .val (.int p1), .val (.int p2), .val (.int p3), .val (.int p4), .val (.int n1), .val (.ref b1), .val (.ref tx), .unset, .unset, .unset, .unset, .unset] [(.int n1), (.ref b1)])
      refine Go.of (fun _ => XS.iconst H111.here hx rfl (hb hby at_72)) ?_
      show Go p e below _ T110 (mkF m 73 #[.val (.int p0), .val (.int p1), .val (.int p2), .val (.int p3), .val (.int p4), .val (.int n1), .val (.ref b1), .val (.ref tx), .unset, .unset, .unset, .unset, .unset] [(.int (1 : Int32)), (.int n1), (.ref b1)])
      refine own_staticW H111 hx (y := (⟨"com/example/brokerward/brokerward/http/RequestHeadTrimPinLaw", "kept", "([CII)Z"⟩ : MethodName)) hown (ow hw 30 rfl) (ow hw 31 rfl) (ow hw 4 rfl) (ow hw 32 rfl) (by decide) (W := 0) (rm_kept l Z a0 hw hE b1 kA c0 c1 c2 c3 n1 (1 : Int32) c1 h7 H111.old f11 (by decide) rfl) (fun _ hq => nomatch hq) (by decide) (by decide) rfl (by rw [hml]; rfl) (argsL := [(.ref b1), (.int n1), (.int (1 : Int32))]) (rest := []) rfl (lenOf pd_14 rfl) rfl (by show 2 * 0 + _ ≤ _; exact Nat.le_of_eq rfl) (hb hby at_73) (by decide) (by decide) fun T119 h121 v123 H120 hs124 q122 => ?_
      obtain ⟨ve126, e125⟩ := q122
      subst e125
      subst ve126
      show Go p e below _ T119 (mkF m 76 #[.val (.int p0), .val (.int p1), .val (.int p2), .val (.int p3), .val (.int p4), .val (.int n1), .val (.ref b1), .val (.ref tx), .unset, .unset, .unset, .unset, .unset] [(.int (if (1 : Int32) < n1 ∧ own_bl c1 = false then 1 else 0))])
      by_cases hq127 : (1 : Int32) < n1 ∧ own_bl c1 = false
      · skip
        rw [if_pos hq127]
        show Go p e below _ T119 (mkF m 76 #[.val (.int p0), .val (.int p1), .val (.int p2), .val (.int p3), .val (.int p4), .val (.int n1), .val (.ref b1), .val (.ref tx), .unset, .unset, .unset, .unset, .unset] [(.int (1 : Int32))])
        refine Go.of (fun _ => XS.ifNo H120.here hx rfl (hb hby at_76) rfl ((if0 _ _).trans (feq (by decide : ¬ ((1 : Int32) = (0 : Int32)))).1)) ?_
        show Go p e below _ T119 (mkF m 79 #[.val (.int p0), .val (.int p1), .val (.int p2), .val (.int p3), .val (.int p4), .val (.int n1), .val (.ref b1), .val (.ref tx), .unset, .unset, .unset, .unset, .unset] [])
        refine Go.of (fun _ => XS.iconst H120.here hx rfl (hb hby at_79)) ?_
        show Go p e below _ T119 (mkF m 80 #[.val (.int p0), .val (.int p1), .val (.int p2), .val (.int p3), .val (.int p4), .val (.int n1), .val (.ref b1), .val (.ref tx), .unset, .unset, .unset, .unset, .unset] [(.int (1 : Int32))])
        refine Go.of (fun _ => XS.istore H120.here hx rfl (hb hby at_80) rfl (l' := #[.val (.int p0), .val (.int p1), .val (.int p2), .val (.int p3), .val (.int p4), .val (.int n1), .val (.ref b1), .val (.ref tx), .val (.int (1 : Int32)), .unset, .unset, .unset, .unset]) rfl) ?_
        show Go p e below _ T119 (mkF m 82 #[.val (.int p0), .val (.int p1), .val (.int p2), .val (.int p3), .val (.int p4), .val (.int n1), .val (.ref b1), .val (.ref tx), .val (.int (1 : Int32)), .unset, .unset, .unset, .unset] [])
        refine Go.of (fun _ => XS.goto H120.here hx rfl (pc0 := 82) (pc' := 123) rfl (hb hby at_82) (by decide) (by decide)) ?_
        show Go p e below _ T119 (mkF m 123 #[.val (.int p0), .val (.int p1), .val (.int p2), .val (.int p3), .val (.int p4), .val (.int n1), .val (.ref b1), .val (.ref tx), .val (.int (1 : Int32)), .unset, .unset, .unset, .unset] [])
        exact J123_70 T119 h7 (1 : Int32) ((H120.more (k' := 7) (n' := 18) (by decide) (by decide)).less (fun _ hq => nomatch hq)) f11 SM (by unfold own_sta; rw [if_neg hq118, if_pos hq127])
      · skip
        rw [if_neg hq127]
        show Go p e below _ T119 (mkF m 76 #[.val (.int p0), .val (.int p1), .val (.int p2), .val (.int p3), .val (.int p4), .val (.int n1), .val (.ref b1), .val (.ref tx), .unset, .unset, .unset, .unset, .unset] [(.int (0 : Int32))])
        refine Go.of (fun _ => XS.ifYes H120.here hx rfl (pc0 := 76) (pc' := 85) rfl (hb hby at_76) rfl ((if0 _ _).trans (teq (by decide : (0 : Int32) = (0 : Int32))).1) (by decide) (by decide)) ?_
        show Go p e below _ T119 (mkF m 85 #[.val (.int p0), .val (.int p1), .val (.int p2), .val (.int p3), .val (.int p4), .val (.int n1), .val (.ref b1), .val (.ref tx), .unset, .unset, .unset, .unset, .unset] [])
        refine Go.of (fun _ => XS.aload H120.here hx rfl (hb hby at_85) rfl rfl) ?_
        show Go p e below _ T119 (mkF m 87 #[.val (.int p0), .val (.int p1), .val (.int p2), .val (.int p3), .val (.int p4), .val (.int n1), .val (.ref b1), .val (.ref tx), .unset, .unset, .unset, .unset, .unset] [(.ref b1)])
        refine Go.of (fun _ => XS.iload H120.here hx rfl (hb hby at_87) rfl) ?_
        show Go p e below _ T119 (mkF m 89 #[.val (.int p0), .val (.int p1), .val (.int p2), .val (.int p3), .val (.int p4), .val (.int n1), .val (.ref b1), .val (.ref tx), .unset, .unset, .unset, .unset, .unset] [(.int n1), (.ref b1)])
        refine Go.of (fun _ => XS.iconst H120.here hx rfl (hb hby at_89)) ?_
        show Go p e below _ T119 (mkF m 90 #[.val (.int p0), .val (.int p1), .val (.int p2), .val (.int p3), .val (.int p4), .val (.int n1), .val (.ref b1), .val (.ref tx), .unset, .unset, .unset, .unset, .unset] [(.int (2 : Int32)), (.int n1), (.ref b1)])
        refine own_staticW H120 hx (y := (⟨"com/example/brokerward/brokerward/http/RequestHeadTrimPinLaw", "kept", "([CII)Z"⟩ : MethodName)) hown (ow hw 30 rfl) (ow hw 31 rfl) (ow hw 4 rfl) (ow hw 32 rfl) (by decide) (W := 0) (rm_kept l Z a0 hw hE b1 kA c0 c1 c2 c3 n1 (2 : Int32) c2 h7 H120.old f11 (by decide) rfl) (fun _ hq => nomatch hq) (by decide) (by decide) rfl (by rw [hml]; rfl) (argsL := [(.ref b1), (.int n1), (.int (2 : Int32))]) (rest := []) rfl (lenOf pd_14 rfl) rfl (by show 2 * 0 + _ ≤ _; exact Nat.le_of_eq rfl) (hb hby at_90) (by decide) (by decide) fun T128 h130 v132 H129 hs133 q131 => ?_
        obtain ⟨ve135, e134⟩ := q131
        subst e134
        subst ve135
        show Go p e below _ T128 (mkF m 93 #[.val (.int p0), .val (.int p1), .val (.int p2), .val (.int p3), .val (.int p4), .val (.int n1), .val (.ref b1), .val (.ref tx), .unset, .unset, .unset, .unset, .unset] [(.int (if (2 : Int32) < n1 ∧ own_bl c2 = false then 1 else 0))])
        by_cases hq136 : (2 : Int32) < n1 ∧ own_bl c2 = false
        · skip
          rw [if_pos hq136]
          show Go p e below _ T128 (mkF m 93 #[.val (.int p0), .val (.int p1), .val (.int p2), .val (.int p3), .val (.int p4), .val (.int n1), .val (.ref b1), .val (.ref tx), .unset, .unset, .unset, .unset, .unset] [(.int (1 : Int32))])
          refine Go.of (fun _ => XS.ifNo H129.here hx rfl (hb hby at_93) rfl ((if0 _ _).trans (feq (by decide : ¬ ((1 : Int32) = (0 : Int32)))).1)) ?_
          show Go p e below _ T128 (mkF m 96 #[.val (.int p0), .val (.int p1), .val (.int p2), .val (.int p3), .val (.int p4), .val (.int n1), .val (.ref b1), .val (.ref tx), .unset, .unset, .unset, .unset, .unset] [])
          refine Go.of (fun _ => XS.iconst H129.here hx rfl (hb hby at_96)) ?_
          show Go p e below _ T128 (mkF m 97 #[.val (.int p0), .val (.int p1), .val (.int p2), .val (.int p3), .val (.int p4), .val (.int n1), .val (.ref b1), .val (.ref tx), .unset, .unset, .unset, .unset, .unset] [(.int (2 : Int32))])
          refine Go.of (fun _ => XS.istore H129.here hx rfl (hb hby at_97) rfl (l' := #[.val (.int p0), .val (.int p1), .val (.int p2), .val (.int p3), .val (.int p4), .val (.int n1), .val (.ref b1), .val (.ref tx), .val (.int (2 : Int32)), .unset, .unset, .unset, .unset]) rfl) ?_
          show Go p e below _ T128 (mkF m 99 #[.val (.int p0), .val (.int p1), .val (.int p2), .val (.int p3), .val (.int p4), .val (.int n1), .val (.ref b1), .val (.ref tx), .val (.int (2 : Int32)), .unset, .unset, .unset, .unset] [])
          refine Go.of (fun _ => XS.goto H129.here hx rfl (pc0 := 99) (pc' := 123) rfl (hb hby at_99) (by decide) (by decide)) ?_
          show Go p e below _ T128 (mkF m 123 #[.val (.int p0), .val (.int p1), .val (.int p2), .val (.int p3), .val (.int p4), .val (.int n1), .val (.ref b1), .val (.ref tx), .val (.int (2 : Int32)), .unset, .unset, .unset, .unset] [])
          exact J123_70 T128 h7 (2 : Int32) ((H129.more (k' := 7) (n' := 18) (by decide) (by decide)).less (fun _ hq => nomatch hq)) f11 SM (by unfold own_sta; rw [if_neg hq118, if_neg hq127, if_pos hq136])
        · skip
          rw [if_neg hq136]
          show Go p e below _ T128 (mkF m 93 #[.val (.int p0), .val (.int p1), .val (.int p2), .val (.int p3), .val (.int p4), .val (.int n1), .val (.ref b1), .val (.ref tx), .unset, .unset, .unset, .unset, .unset] [(.int (0 : Int32))])
          refine Go.of (fun _ => XS.ifYes H129.here hx rfl (pc0 := 93) (pc' := 102) rfl (hb hby at_93) rfl ((if0 _ _).trans (teq (by decide : (0 : Int32) = (0 : Int32))).1) (by decide) (by decide)) ?_
          show Go p e below _ T128 (mkF m 102 #[.val (.int p0), .val (.int p1), .val (.int p2), .val (.int p3), .val (.int p4), .val (.int n1), .val (.ref b1), .val (.ref tx), .unset, .unset, .unset, .unset, .unset] [])
          refine Go.of (fun _ => XS.aload H129.here hx rfl (hb hby at_102) rfl rfl) ?_
          show Go p e below _ T128 (mkF m 104 #[.val (.int p0), .val (.int p1), .val (.int p2), .val (.int p3), .val (.int p4), .val (.int n1), .val (.ref b1), .val (.ref tx), .unset, .unset, .unset, .unset, .unset] [(.ref b1)])
          refine Go.of (fun _ => XS.iload H129.here hx rfl (hb hby at_104) rfl) ?_
          show Go p e below _ T128 (mkF m 106 #[.val (.int p0), .val (.int p1), .val (.int p2), .val (.int p3), .val (.int p4), .val (.int n1), .val (.ref b1), .val (.ref tx), .unset, .unset, .unset, .unset, .unset] [(.int n1), (.ref b1)])
          refine Go.of (fun _ => XS.iconst H129.here hx rfl (hb hby at_106)) ?_
          show Go p e below _ T128 (mkF m 107 #[.val (.int p0), .val (.int p1), .val (.int p2), .val (.int p3), .val (.int p4), .val (.int n1), .val (.ref b1), .val (.ref tx), .unset, .unset, .unset, .unset, .unset] [(.int (3 : Int32)), (.int n1), (.ref b1)])
          refine own_staticW H129 hx (y := (⟨"com/example/brokerward/brokerward/http/RequestHeadTrimPinLaw", "kept", "([CII)Z"⟩ : MethodName)) hown (ow hw 30 rfl) (ow hw 31 rfl) (ow hw 4 rfl) (ow hw 32 rfl) (by decide) (W := 0) (rm_kept l Z a0 hw hE b1 kA c0 c1 c2 c3 n1 (3 : Int32) c3 h7 H129.old f11 (by decide) rfl) (fun _ hq => nomatch hq) (by decide) (by decide) rfl (by rw [hml]; rfl) (argsL := [(.ref b1), (.int n1), (.int (3 : Int32))]) (rest := []) rfl (lenOf pd_14 rfl) rfl (by show 2 * 0 + _ ≤ _; exact Nat.le_of_eq rfl) (hb hby at_107) (by decide) (by decide) fun T137 h139 v141 H138 hs142 q140 => ?_
          obtain ⟨ve144, e143⟩ := q140
          subst e143
          subst ve144
          show Go p e below _ T137 (mkF m 110 #[.val (.int p0), .val (.int p1), .val (.int p2), .val (.int p3), .val (.int p4), .val (.int n1), .val (.ref b1), .val (.ref tx), .unset, .unset, .unset, .unset, .unset] [(.int (if (3 : Int32) < n1 ∧ own_bl c3 = false then 1 else 0))])
          by_cases hq145 : (3 : Int32) < n1 ∧ own_bl c3 = false
          · skip
            rw [if_pos hq145]
            show Go p e below _ T137 (mkF m 110 #[.val (.int p0), .val (.int p1), .val (.int p2), .val (.int p3), .val (.int p4), .val (.int n1), .val (.ref b1), .val (.ref tx), .unset, .unset, .unset, .unset, .unset] [(.int (1 : Int32))])
            refine Go.of (fun _ => XS.ifNo H138.here hx rfl (hb hby at_110) rfl ((if0 _ _).trans (feq (by decide : ¬ ((1 : Int32) = (0 : Int32)))).1)) ?_
            show Go p e below _ T137 (mkF m 113 #[.val (.int p0), .val (.int p1), .val (.int p2), .val (.int p3), .val (.int p4), .val (.int n1), .val (.ref b1), .val (.ref tx), .unset, .unset, .unset, .unset, .unset] [])
            refine Go.of (fun _ => XS.iconst H138.here hx rfl (hb hby at_113)) ?_
            show Go p e below _ T137 (mkF m 114 #[.val (.int p0), .val (.int p1), .val (.int p2), .val (.int p3), .val (.int p4), .val (.int n1), .val (.ref b1), .val (.ref tx), .unset, .unset, .unset, .unset, .unset] [(.int (3 : Int32))])
            refine Go.of (fun _ => XS.istore H138.here hx rfl (hb hby at_114) rfl (l' := #[.val (.int p0), .val (.int p1), .val (.int p2), .val (.int p3), .val (.int p4), .val (.int n1), .val (.ref b1), .val (.ref tx), .val (.int (3 : Int32)), .unset, .unset, .unset, .unset]) rfl) ?_
            show Go p e below _ T137 (mkF m 116 #[.val (.int p0), .val (.int p1), .val (.int p2), .val (.int p3), .val (.int p4), .val (.int n1), .val (.ref b1), .val (.ref tx), .val (.int (3 : Int32)), .unset, .unset, .unset, .unset] [])
            refine Go.of (fun _ => XS.goto H138.here hx rfl (pc0 := 116) (pc' := 123) rfl (hb hby at_116) (by decide) (by decide)) ?_
            show Go p e below _ T137 (mkF m 123 #[.val (.int p0), .val (.int p1), .val (.int p2), .val (.int p3), .val (.int p4), .val (.int n1), .val (.ref b1), .val (.ref tx), .val (.int (3 : Int32)), .unset, .unset, .unset, .unset] [])
            exact J123_70 T137 h7 (3 : Int32) ((H138.more (k' := 7) (n' := 18) (by decide) (by decide)).less (fun _ hq => nomatch hq)) f11 SM (by unfold own_sta; rw [if_neg hq118, if_neg hq127, if_neg hq136, if_pos hq145])
          · skip
            rw [if_neg hq145]
            show Go p e below _ T137 (mkF m 110 #[.val (.int p0), .val (.int p1), .val (.int p2), .val (.int p3), .val (.int p4), .val (.int n1), .val (.ref b1), .val (.ref tx), .unset, .unset, .unset, .unset, .unset] [(.int (0 : Int32))])
            refine Go.of (fun _ => XS.ifYes H138.here hx rfl (pc0 := 110) (pc' := 119) rfl (hb hby at_110) rfl ((if0 _ _).trans (teq (by decide : (0 : Int32) = (0 : Int32))).1) (by decide) (by decide)) ?_
            show Go p e below _ T137 (mkF m 119 #[.val (.int p0), .val (.int p1), .val (.int p2), .val (.int p3), .val (.int p4), .val (.int n1), .val (.ref b1), .val (.ref tx), .unset, .unset, .unset, .unset, .unset] [])
            refine Go.of (fun _ => XS.iload H138.here hx rfl (hb hby at_119) rfl) ?_
            show Go p e below _ T137 (mkF m 121 #[.val (.int p0), .val (.int p1), .val (.int p2), .val (.int p3), .val (.int p4), .val (.int n1), .val (.ref b1), .val (.ref tx), .unset, .unset, .unset, .unset, .unset] [(.int n1)])
            refine Go.of (fun _ => XS.istore H138.here hx rfl (hb hby at_121) rfl (l' := #[.val (.int p0), .val (.int p1), .val (.int p2), .val (.int p3), .val (.int p4), .val (.int n1), .val (.ref b1), .val (.ref tx), .val (.int n1), .unset, .unset, .unset, .unset]) rfl) ?_
            show Go p e below _ T137 (mkF m 123 #[.val (.int p0), .val (.int p1), .val (.int p2), .val (.int p3), .val (.int p4), .val (.int n1), .val (.ref b1), .val (.ref tx), .val (.int n1), .unset, .unset, .unset, .unset] [])
            exact J123_70 T137 h7 n1 ((H138.more (k' := 7) (n' := 18) (by decide) (by decide)).less (fun _ hq => nomatch hq)) f11 SM (by unfold own_sta; rw [if_neg hq118, if_neg hq127, if_neg hq136, if_neg hq145])
  show Go p e below _ s₁ (mkF m 0 #[.val (.int p0), .val (.int p1), .val (.int p2), .val (.int p3), .val (.int p4), .unset, .unset, .unset, .unset, .unset, .unset, .unset, .unset] [])
  refine Go.of (fun _ => XS.iloadN H0.here hx rfl (hb hby at_0) rfl) ?_
  show Go p e below _ s₁ (mkF m 1 #[.val (.int p0), .val (.int p1), .val (.int p2), .val (.int p3), .val (.int p4), .unset, .unset, .unset, .unset, .unset, .unset, .unset, .unset] [(.int p0)])
  refine own_ldcI H0 hx hown (ow hw 0 rfl) rfl (hb hby at_1) ?_
  show Go p e below _ s₁ (mkF m 3 #[.val (.int p0), .val (.int p1), .val (.int p2), .val (.int p3), .val (.int p4), .unset, .unset, .unset, .unset, .unset, .unset, .unset, .unset] [(.int (2147483647 : Int32)), (.int p0)])
  refine Go.of (fun _ => XS.iand H0.here hx rfl (hb hby at_3) rfl) ?_
  show Go p e below _ s₁ (mkF m 4 #[.val (.int p0), .val (.int p1), .val (.int p2), .val (.int p3), .val (.int p4), .unset, .unset, .unset, .unset, .unset, .unset, .unset, .unset] [(.int (p0 &&& (2147483647 : Int32)))])
  refine Go.of (fun _ => XS.iconst H0.here hx rfl (hb hby at_4)) ?_
  show Go p e below _ s₁ (mkF m 5 #[.val (.int p0), .val (.int p1), .val (.int p2), .val (.int p3), .val (.int p4), .unset, .unset, .unset, .unset, .unset, .unset, .unset, .unset] [(.int (5 : Int32)), (.int (p0 &&& (2147483647 : Int32)))])
  refine own_irem H0 hx rfl (hb hby at_5) rfl (by decide) ?_
  show Go p e below _ s₁ (mkF m 6 #[.val (.int p0), .val (.int p1), .val (.int p2), .val (.int p3), .val (.int p4), .unset, .unset, .unset, .unset, .unset, .unset, .unset, .unset] [(.int ((p0 &&& (2147483647 : Int32)) % (5 : Int32)))])
  refine Go.of (fun _ => XS.istore H0.here hx rfl (hb hby at_6) rfl (l' := #[.val (.int p0), .val (.int p1), .val (.int p2), .val (.int p3), .val (.int p4), .val (.int ((p0 &&& (2147483647 : Int32)) % (5 : Int32))), .unset, .unset, .unset, .unset, .unset, .unset, .unset]) rfl) ?_
  show Go p e below _ s₁ (mkF m 8 #[.val (.int p0), .val (.int p1), .val (.int p2), .val (.int p3), .val (.int p4), .val (.int ((p0 &&& (2147483647 : Int32)) % (5 : Int32))), .unset, .unset, .unset, .unset, .unset, .unset, .unset] [])
  refine Go.of (fun _ => XS.iconst H0.here hx rfl (hb hby at_8)) ?_
  show Go p e below _ s₁ (mkF m 9 #[.val (.int p0), .val (.int p1), .val (.int p2), .val (.int p3), .val (.int p4), .val (.int ((p0 &&& (2147483647 : Int32)) % (5 : Int32))), .unset, .unset, .unset, .unset, .unset, .unset, .unset] [(.int (4 : Int32))])
  refine own_newP H0 hx (ow hw 1 rfl) rfl (hb hby at_9) rfl (by decide) (cap := 4) (by decide) (by decide) (by decide) (by decide) fun T146 h148 b149 kA152 g150 H147 E151 V153 => ?_
  have fr154 : Z.heap.size ≤ b149 := by rw [g150]; exact H0.old.1
  have V155 : Arv Z h148 b149 kA152 .char (4 : Int32) [(.int (0 : Int32)), (.int (0 : Int32)), (.int (0 : Int32)), (.int (0 : Int32))] (.int (0 : Int32)) := V153.pad (pad_rep [] (.int (0 : Int32)) 4)
  show Go p e below _ T146 (mkF m 11 #[.val (.int p0), .val (.int p1), .val (.int p2), .val (.int p3), .val (.int p4), .val (.int ((p0 &&& (2147483647 : Int32)) % (5 : Int32))), .unset, .unset, .unset, .unset, .unset, .unset, .unset] [(.ref b149)])
  refine Go.of (fun _ => XS.dup H147.here hx rfl (hb hby at_11) rfl rfl) ?_
  show Go p e below _ T146 (mkF m 12 #[.val (.int p0), .val (.int p1), .val (.int p2), .val (.int p3), .val (.int p4), .val (.int ((p0 &&& (2147483647 : Int32)) % (5 : Int32))), .unset, .unset, .unset, .unset, .unset, .unset, .unset] [(.ref b149), (.ref b149)])
  refine Go.of (fun _ => XS.iconst H147.here hx rfl (hb hby at_12)) ?_
  show Go p e below _ T146 (mkF m 13 #[.val (.int p0), .val (.int p1), .val (.int p2), .val (.int p3), .val (.int p4), .val (.int ((p0 &&& (2147483647 : Int32)) % (5 : Int32))), .unset, .unset, .unset, .unset, .unset, .unset, .unset] [(.int (0 : Int32)), (.ref b149), (.ref b149)])
  refine Go.of (fun _ => XS.iloadN H147.here hx rfl (hb hby at_13) rfl) ?_
  show Go p e below _ T146 (mkF m 14 #[.val (.int p0), .val (.int p1), .val (.int p2), .val (.int p3), .val (.int p4), .val (.int ((p0 &&& (2147483647 : Int32)) % (5 : Int32))), .unset, .unset, .unset, .unset, .unset, .unset, .unset] [(.int p1), (.int (0 : Int32)), (.ref b149), (.ref b149)])
  refine own_staticW H147 hx (y := (⟨"com/example/brokerward/brokerward/http/RequestHeadTrimPinLaw", "draw", "(I)C"⟩ : MethodName)) hown (ow hw 2 rfl) (ow hw 3 rfl) (ow hw 4 rfl) (ow hw 5 rfl) (by decide) (W := 3) (rm_draw l Z a0 hw hE p1 h148 H147.old ) (fun _ hq => nomatch hq) (by decide) (by decide) rfl (by rw [hml]; rfl) (argsL := [(.int p1)]) (rest := [(.int (0 : Int32)), (.ref b149), (.ref b149)]) rfl (lenOf pd_15 rfl) rfl (by show 2 * 0 + _ ≤ _; exact Nat.le_of_eq rfl) (hb hby at_14) (by decide) (by decide) fun T156 h158 v160 H157 hs161 q159 => ?_
  obtain ⟨ve163, e162⟩ := q159
  subst e162
  subst ve163
  show Go p e below _ T156 (mkF m 17 #[.val (.int p0), .val (.int p1), .val (.int p2), .val (.int p3), .val (.int p4), .val (.int ((p0 &&& (2147483647 : Int32)) % (5 : Int32))), .unset, .unset, .unset, .unset, .unset, .unset, .unset] [(.int (own_draw p1)), (.int (0 : Int32)), (.ref b149), (.ref b149)])
  refine own_castore H157 hx V155 ⟨by decide, by decide⟩ 0 (by decide) (Nat.le_of_ble_eq_true rfl) fr154 rfl rfl (hb hby at_17) fun T164 h166 H165 W167 V168 => ?_
  have V170 : Arv Z h166 b149 kA152 .char (4 : Int32) [(.int (nar .char (own_draw p1))), (.int (0 : Int32)), (.int (0 : Int32)), (.int (0 : Int32))] (.int (0 : Int32)) := V168
  show Go p e below _ T164 (mkF m 18 #[.val (.int p0), .val (.int p1), .val (.int p2), .val (.int p3), .val (.int p4), .val (.int ((p0 &&& (2147483647 : Int32)) % (5 : Int32))), .unset, .unset, .unset, .unset, .unset, .unset, .unset] [(.ref b149)])
  refine Go.of (fun _ => XS.dup H165.here hx rfl (hb hby at_18) rfl rfl) ?_
  show Go p e below _ T164 (mkF m 19 #[.val (.int p0), .val (.int p1), .val (.int p2), .val (.int p3), .val (.int p4), .val (.int ((p0 &&& (2147483647 : Int32)) % (5 : Int32))), .unset, .unset, .unset, .unset, .unset, .unset, .unset] [(.ref b149), (.ref b149)])
  refine Go.of (fun _ => XS.iconst H165.here hx rfl (hb hby at_19)) ?_
  show Go p e below _ T164 (mkF m 20 #[.val (.int p0), .val (.int p1), .val (.int p2), .val (.int p3), .val (.int p4), .val (.int ((p0 &&& (2147483647 : Int32)) % (5 : Int32))), .unset, .unset, .unset, .unset, .unset, .unset, .unset] [(.int (1 : Int32)), (.ref b149), (.ref b149)])
  refine Go.of (fun _ => XS.iloadN H165.here hx rfl (hb hby at_20) rfl) ?_
  show Go p e below _ T164 (mkF m 21 #[.val (.int p0), .val (.int p1), .val (.int p2), .val (.int p3), .val (.int p4), .val (.int ((p0 &&& (2147483647 : Int32)) % (5 : Int32))), .unset, .unset, .unset, .unset, .unset, .unset, .unset] [(.int p2), (.int (1 : Int32)), (.ref b149), (.ref b149)])
  refine own_staticW H165 hx (y := (⟨"com/example/brokerward/brokerward/http/RequestHeadTrimPinLaw", "draw", "(I)C"⟩ : MethodName)) hown (ow hw 2 rfl) (ow hw 3 rfl) (ow hw 4 rfl) (ow hw 5 rfl) (by decide) (W := 3) (rm_draw l Z a0 hw hE p2 h166 H165.old ) (fun _ hq => nomatch hq) (by decide) (by decide) rfl (by rw [hml]; rfl) (argsL := [(.int p2)]) (rest := [(.int (1 : Int32)), (.ref b149), (.ref b149)]) rfl (lenOf pd_15 rfl) rfl (by show 2 * 0 + _ ≤ _; exact Nat.le_of_eq rfl) (hb hby at_21) (by decide) (by decide) fun T171 h173 v175 H172 hs176 q174 => ?_
  obtain ⟨ve178, e177⟩ := q174
  subst e177
  subst ve178
  show Go p e below _ T171 (mkF m 24 #[.val (.int p0), .val (.int p1), .val (.int p2), .val (.int p3), .val (.int p4), .val (.int ((p0 &&& (2147483647 : Int32)) % (5 : Int32))), .unset, .unset, .unset, .unset, .unset, .unset, .unset] [(.int (own_draw p2)), (.int (1 : Int32)), (.ref b149), (.ref b149)])
  refine own_castore H172 hx V170 ⟨by decide, by decide⟩ 1 (by decide) (Nat.le_of_ble_eq_true rfl) fr154 rfl rfl (hb hby at_24) fun T179 h181 H180 W182 V183 => ?_
  have V185 : Arv Z h181 b149 kA152 .char (4 : Int32) [(.int (nar .char (own_draw p1))), (.int (nar .char (own_draw p2))), (.int (0 : Int32)), (.int (0 : Int32))] (.int (0 : Int32)) := V183
  show Go p e below _ T179 (mkF m 25 #[.val (.int p0), .val (.int p1), .val (.int p2), .val (.int p3), .val (.int p4), .val (.int ((p0 &&& (2147483647 : Int32)) % (5 : Int32))), .unset, .unset, .unset, .unset, .unset, .unset, .unset] [(.ref b149)])
  refine Go.of (fun _ => XS.dup H180.here hx rfl (hb hby at_25) rfl rfl) ?_
  show Go p e below _ T179 (mkF m 26 #[.val (.int p0), .val (.int p1), .val (.int p2), .val (.int p3), .val (.int p4), .val (.int ((p0 &&& (2147483647 : Int32)) % (5 : Int32))), .unset, .unset, .unset, .unset, .unset, .unset, .unset] [(.ref b149), (.ref b149)])
  refine Go.of (fun _ => XS.iconst H180.here hx rfl (hb hby at_26)) ?_
  show Go p e below _ T179 (mkF m 27 #[.val (.int p0), .val (.int p1), .val (.int p2), .val (.int p3), .val (.int p4), .val (.int ((p0 &&& (2147483647 : Int32)) % (5 : Int32))), .unset, .unset, .unset, .unset, .unset, .unset, .unset] [(.int (2 : Int32)), (.ref b149), (.ref b149)])
  refine Go.of (fun _ => XS.iloadN H180.here hx rfl (hb hby at_27) rfl) ?_
  show Go p e below _ T179 (mkF m 28 #[.val (.int p0), .val (.int p1), .val (.int p2), .val (.int p3), .val (.int p4), .val (.int ((p0 &&& (2147483647 : Int32)) % (5 : Int32))), .unset, .unset, .unset, .unset, .unset, .unset, .unset] [(.int p3), (.int (2 : Int32)), (.ref b149), (.ref b149)])
  refine own_staticW H180 hx (y := (⟨"com/example/brokerward/brokerward/http/RequestHeadTrimPinLaw", "draw", "(I)C"⟩ : MethodName)) hown (ow hw 2 rfl) (ow hw 3 rfl) (ow hw 4 rfl) (ow hw 5 rfl) (by decide) (W := 3) (rm_draw l Z a0 hw hE p3 h181 H180.old ) (fun _ hq => nomatch hq) (by decide) (by decide) rfl (by rw [hml]; rfl) (argsL := [(.int p3)]) (rest := [(.int (2 : Int32)), (.ref b149), (.ref b149)]) rfl (lenOf pd_15 rfl) rfl (by show 2 * 0 + _ ≤ _; exact Nat.le_of_eq rfl) (hb hby at_28) (by decide) (by decide) fun T186 h188 v190 H187 hs191 q189 => ?_
  obtain ⟨ve193, e192⟩ := q189
  subst e192
  subst ve193
  show Go p e below _ T186 (mkF m 31 #[.val (.int p0), .val (.int p1), .val (.int p2), .val (.int p3), .val (.int p4), .val (.int ((p0 &&& (2147483647 : Int32)) % (5 : Int32))), .unset, .unset, .unset, .unset, .unset, .unset, .unset] [(.int (own_draw p3)), (.int (2 : Int32)), (.ref b149), (.ref b149)])
  refine own_castore H187 hx V185 ⟨by decide, by decide⟩ 2 (by decide) (Nat.le_of_ble_eq_true rfl) fr154 rfl rfl (hb hby at_31) fun T194 h196 H195 W197 V198 => ?_
  have V200 : Arv Z h196 b149 kA152 .char (4 : Int32) [(.int (nar .char (own_draw p1))), (.int (nar .char (own_draw p2))), (.int (nar .char (own_draw p3))), (.int (0 : Int32))] (.int (0 : Int32)) := V198
  show Go p e below _ T194 (mkF m 32 #[.val (.int p0), .val (.int p1), .val (.int p2), .val (.int p3), .val (.int p4), .val (.int ((p0 &&& (2147483647 : Int32)) % (5 : Int32))), .unset, .unset, .unset, .unset, .unset, .unset, .unset] [(.ref b149)])
  refine Go.of (fun _ => XS.dup H195.here hx rfl (hb hby at_32) rfl rfl) ?_
  show Go p e below _ T194 (mkF m 33 #[.val (.int p0), .val (.int p1), .val (.int p2), .val (.int p3), .val (.int p4), .val (.int ((p0 &&& (2147483647 : Int32)) % (5 : Int32))), .unset, .unset, .unset, .unset, .unset, .unset, .unset] [(.ref b149), (.ref b149)])
  refine Go.of (fun _ => XS.iconst H195.here hx rfl (hb hby at_33)) ?_
  show Go p e below _ T194 (mkF m 34 #[.val (.int p0), .val (.int p1), .val (.int p2), .val (.int p3), .val (.int p4), .val (.int ((p0 &&& (2147483647 : Int32)) % (5 : Int32))), .unset, .unset, .unset, .unset, .unset, .unset, .unset] [(.int (3 : Int32)), (.ref b149), (.ref b149)])
  refine Go.of (fun _ => XS.iload H195.here hx rfl (hb hby at_34) rfl) ?_
  show Go p e below _ T194 (mkF m 36 #[.val (.int p0), .val (.int p1), .val (.int p2), .val (.int p3), .val (.int p4), .val (.int ((p0 &&& (2147483647 : Int32)) % (5 : Int32))), .unset, .unset, .unset, .unset, .unset, .unset, .unset] [(.int p4), (.int (3 : Int32)), (.ref b149), (.ref b149)])
  refine own_staticW H195 hx (y := (⟨"com/example/brokerward/brokerward/http/RequestHeadTrimPinLaw", "draw", "(I)C"⟩ : MethodName)) hown (ow hw 2 rfl) (ow hw 3 rfl) (ow hw 4 rfl) (ow hw 5 rfl) (by decide) (W := 3) (rm_draw l Z a0 hw hE p4 h196 H195.old ) (fun _ hq => nomatch hq) (by decide) (by decide) rfl (by rw [hml]; rfl) (argsL := [(.int p4)]) (rest := [(.int (3 : Int32)), (.ref b149), (.ref b149)]) rfl (lenOf pd_15 rfl) rfl (by show 2 * 0 + _ ≤ _; exact Nat.le_of_eq rfl) (hb hby at_36) (by decide) (by decide) fun T201 h203 v205 H202 hs206 q204 => ?_
  obtain ⟨ve208, e207⟩ := q204
  subst e207
  subst ve208
  show Go p e below _ T201 (mkF m 39 #[.val (.int p0), .val (.int p1), .val (.int p2), .val (.int p3), .val (.int p4), .val (.int ((p0 &&& (2147483647 : Int32)) % (5 : Int32))), .unset, .unset, .unset, .unset, .unset, .unset, .unset] [(.int (own_draw p4)), (.int (3 : Int32)), (.ref b149), (.ref b149)])
  refine own_castore H202 hx V200 ⟨by decide, by decide⟩ 3 (by decide) (Nat.le_of_ble_eq_true rfl) fr154 rfl rfl (hb hby at_39) fun T209 h211 H210 W212 V213 => ?_
  have V215 : Arv Z h211 b149 kA152 .char (4 : Int32) [(.int (nar .char (own_draw p1))), (.int (nar .char (own_draw p2))), (.int (nar .char (own_draw p3))), (.int (nar .char (own_draw p4)))] (.int (0 : Int32)) := V213
  show Go p e below _ T209 (mkF m 40 #[.val (.int p0), .val (.int p1), .val (.int p2), .val (.int p3), .val (.int p4), .val (.int ((p0 &&& (2147483647 : Int32)) % (5 : Int32))), .unset, .unset, .unset, .unset, .unset, .unset, .unset] [(.ref b149)])
  refine Go.of (fun _ => XS.astore H210.here hx rfl (hb hby at_40) rfl rfl (l' := #[.val (.int p0), .val (.int p1), .val (.int p2), .val (.int p3), .val (.int p4), .val (.int ((p0 &&& (2147483647 : Int32)) % (5 : Int32))), .val (.ref b149), .unset, .unset, .unset, .unset, .unset, .unset]) rfl) ?_
  show Go p e below _ T209 (mkF m 42 #[.val (.int p0), .val (.int p1), .val (.int p2), .val (.int p3), .val (.int p4), .val (.int ((p0 &&& (2147483647 : Int32)) % (5 : Int32))), .val (.ref b149), .unset, .unset, .unset, .unset, .unset, .unset] [])
  exact J42_1 T209 h211 b149 kA152 (nar .char (own_draw p1)) (nar .char (own_draw p2)) (nar .char (own_draw p3)) (nar .char (own_draw p4)) ((p0 &&& (2147483647 : Int32)) % (5 : Int32)) ((H210.more (k' := 1) (n' := 4) (by decide) (by decide)).less (fun _ hq => nomatch hq)) V215 (own_rng5 _) (own_dr _) (own_dr _) (own_dr _) (own_dr _)
set_option maxRecDepth 65536 in
set_option maxHeartbeats 40000000 in
theorem comes_1 {Post : Tables → Env → Array Value → State → Outcome → State → Prop} (hpost : ∀ tb e args s v u, (limb_1_1.after args s (.returned v) u = true ∧ limb_1_2.after args s (.returned v) u = true ∧ True) → ReturnedEndW s (.returned v) u (Jvm.fieldLocs frame_1_writes args s ++ Jvm.arrayLocs frame_1_arrays args s ++ Jvm.staticLocs frame_1_statics s) 24 2176 → Post tb e args s (.returned v) u) :
    ArmFor flags0 classFile x code maxLocals ret World_1 tables_1 room_1 Calls_1 rest_1 Pre_1 Post := by
  intro l hfl _ _ p e ha hc hk s m args below hf hA hF happ hP
  obtain ⟨hcalls, hrest, hpre⟩ := hP
  obtain ⟨-, -, -, hnamed, -, -, -, hat⟩ := (Spec.applies_iff hf).mp happ
  obtain ⟨hg, hn⟩ := and_e (Cond.before_iff.mp (show (Jvm.Cond.and given_1 narrow_1).before args s = true from hpre))
  obtain ⟨g0, gg0⟩ := and_e hg
  obtain ⟨g1, gg1⟩ := and_e gg0
  obtain ⟨g2, gg2⟩ := and_e gg1
  obtain ⟨g3, gg3⟩ := and_e gg2
  obtain ⟨g4, gg4⟩ := and_e gg3
  obtain ⟨u0, u1, u2, u3, u4, rfl⟩ : ∃ u0 u1 u2 u3 u4 : Value, args = #[u0, u1, u2, u3, u4] := by
    have hs : args.size = 5 := by simpa [Cond.value, given_1] using g0
    obtain ⟨L⟩ := args
    match L, hs with
    | [u0, u1, u2, u3, u4], _ => exact ⟨u0, u1, u2, u3, u4, rfl⟩
  have hw := fun d (hd : d ∈ tables_1) => atoms_spec (ws := Jvm.Cond.code x code maxLocals ret :: tables_1) hat d (List.mem_cons_of_mem _ hd)
  obtain ⟨i0, ei0⟩ := is_v g1
  obtain rfl : u0 = (.int i0) := Option.some.inj ei0
  obtain ⟨i1, ei1⟩ := is_v g2
  obtain rfl : u1 = (.int i1) := Option.some.inj ei1
  obtain ⟨i2, ei2⟩ := is_v g3
  obtain rfl : u2 = (.int i2) := Option.some.inj ei2
  obtain ⟨i3, ei3⟩ := is_v g4
  obtain rfl : u3 = (.int i3) := Option.some.inj ei3
  obtain ⟨i4, ei4⟩ := is_v gg4
  obtain rfl : u4 = (.int i4) := Option.some.inj ei4
  obtain ⟨hsets, hown0⟩ := atoms_of _ (rest_1_c_eq ▸ (show rest_1_c.before _ s = true from hrest))
  have n5 := not_v (Cond.before_iff.mp (hsets _ (List.mem_of_getElem? (i := 2) rfl)))
  obtain ⟨zc, ezc⟩ := is_v (Cond.before_iff.mp (hsets _ (List.mem_of_getElem? (i := 1) rfl)))
  have SC := Sta.start ezc (Or.inl (hsets _ (List.mem_of_getElem? (i := 0) rfl)))
  have hzc : ¬ (zc = (0 : Int32)) := gotF (Cond.eq_ints ezc (Term.int_eval (0))) n5
  obtain ⟨fm, efm, hfm⟩ := isR_v (Cond.before_iff.mp (hsets _ (List.mem_of_getElem? (i := 8) rfl)))
  have SF := Sta.start efm (Or.inl (hsets _ (List.mem_of_getElem? (i := 7) rfl)))
  have hE : EW s #[.int i0, .int i1, .int i2, .int i3, .int i4] ELx := own_hE hw
  have hC : CHv s ELx s.vm s.heap := own_start hE hcalls (hsets _ (List.mem_of_getElem? (i := 2) rfl)) (ow hw 23 rfl) (ow hw 10 rfl)
  obtain ⟨n, o, h1, h2, h3, _, L, rfl, ⟨N, -, rfl⟩, -, hq⟩ := rm_law l s _ hw hE i0 i1 i2 i3 i4 zc fm s.heap ⟨Nat.le_refl _, fun _ _ q => q⟩ SC hzc SF hfm p e ha hc hk s m _ below hf ((Spec.applies_iff_loose hf).mp happ).1 ⟨rfl, State.Warmed39.refl s, rfl, hC, (fun _ hq => nomatch hq)⟩ trivial
  have hq : ReturnedEndW s _ _ L room_1.cells room_1.slots := hq
  exact ⟨n, _, h1, h2, h3, hpost _ _ _ _ _ _ ⟨Cond.after_iff.mpr rfl, Cond.after_iff.mpr (eq_i res_at (Term.int_eval (1)) rfl), trivial⟩ ⟨hq.1, hq.2.1, hq.2.2.1, (hq.2.2.2.sift fun y hy => Or.inr (N y hy)).mono (by decide) (by decide)⟩⟩
theorem main_1_1 : Claimed_1_1 := comes_1 fun _ _ _ _ _ _ h hF => ⟨h.1, hF⟩
theorem main_1_2 : Claimed_1_2 := comes_1 fun _ _ _ _ _ _ h hF => ⟨h.2.1, hF⟩
end Jvm.Pilot.@@N@@
namespace Jvm.Pilot.@@N@@
open Jvm Jvm.ClassFile Sem Op Lib Jvm.Free Jvm.Stand Jvm.Pilot.@@N@@.Jvm.D
/-! MADE BY PROGRAM (witnessworld.py) out of the Statement's table words and the real class files: 24 classes; the members and pool entries that the words name. The judged class is class 1, her method 4. -/
namespace start1
open Jvm.ClassFile
def u (s : String) : CpInfo := .utf8 (stringToUtf16 s)
/-- a pool by its gaps: so many unusable entries, then the entry; so many at the end -/
def gap : Nat → List CpInfo → List CpInfo
  | 0, r => r
  | n + 1, r => .unusable :: gap n r
def poolList (es : List (Nat × CpInfo)) (last : Nat) : List CpInfo := es.foldr (fun e r => gap e.1 (e.2 :: r)) (gap last [])
def pool (es : List (Nat × CpInfo)) (last : Nat) : Array CpInfo := ⟨poolList es last⟩
def fileOf (pool : Array CpInfo) (this : Nat) (attrs : Array Attribute := #[]) (ms : Array MethodInfo := #[]) (fl : Nat := 33) (sup : Nat := 0) (ifs : Array Nat := #[]) (fds : Array FieldInfo := #[]) : ClassFile where
  minorVersion := 0
  majorVersion := 65
  constantPool := pool
  accessFlags := fl
  thisClass := this
  superClass := sup
  interfaces := ifs
  fields := fds
  methods := ms
  attributes := attrs
def plain (name : String) (sup : Option ClassId) : Class where
  name := name
  kind := .ordinary
  loader := none
  accessFlags := 33
  super := sup
  interfaces := #[]
  cf := none
  fields := #[]
  methods := #[]
  instanceTypes := #[]
  staticTypes := #[]
  resolved := #[]
  callSites := []
  init := .initialized
  statics := none
  mirror := none

def pool0 : Array CpInfo := pool [(5, u "<init>"), (0, u "()V"), (1, .class_ 10), (1, u "java/lang/Object")] 113

def k0c0 : Code := { maxStack := 0, maxLocals := 1, code := object_method_1_code, exceptionTable := #[], attributes := #[] }
def k0m0 : Method := { name := "<init>", desc := "()V", sig := { parameters := [], returnType := none }, accessFlags := 1, code := some k0c0 }
/-- java/lang/Object -/
def k0 : Class := { plain "java/lang/Object" none with
  accessFlags := 33
  interfaces := #[]
  cf := some (fileOf pool0 8 #[] #[{ accessFlags := 1, nameIndex := 5, descriptorIndex := 6, attributes := #[] }] 33 0 #[] #[])
  fields := #[]
  methods := #[k0m0]
  instanceTypes := #[]
  staticTypes := #[]
  resolved := Array.replicate 124 none
  statics := none }

def pool1 : Array CpInfo := pool [(2, .class_ 4), (1, u "java/lang/Object"), (0, u "<init>"), (0, u "()V"), (0, .class_ 8), (0, u "java/lang/String"), (0, .methodref 7 10), (0, .nameAndType 5 11), (0, u "([C)V"), (0, .integer 2147483647), (0, .methodref 14 15), (0, .class_ 16), (0, .nameAndType 17 18), (0, u "com/example/brokerward/brokerward/http/RequestHeadTrimPinLaw"), (0, u "draw"), (0, u "(I)C"), (0, .methodref 14 20), (0, .nameAndType 21 22), (0, u "make"), (0, u "([CI)Ljava/lang/String;"), (0, .methodref 14 24), (0, .nameAndType 25 26), (0, u "kept"), (0, u "([CII)Z"), (0, .methodref 28 29), (0, .class_ 30), (0, .nameAndType 31 32), (0, u "com/example/brokerward/brokerward/http/RequestHead"), (0, u "trim"), (0, u "(Ljava/lang/String;)Ljava/lang/String;"), (0, .methodref 7 34), (0, .nameAndType 35 36), (0, u "length"), (0, u "()I"), (0, .methodref 7 38), (0, .nameAndType 39 18), (0, u "charAt"), (3, u "law"), (0, u "(IIIII)Z")] 4

def k1m0 : Method := { name := "<init>", desc := "()V", sig := { parameters := [], returnType := none }, accessFlags := 1, code := none }
def k1c1 : Code := { maxStack := 2, maxLocals := 2, code := method_2_code, exceptionTable := #[], attributes := #[] }
def k1m1 : Method := { name := "draw", desc := "(I)C", sig := { parameters := [.int], returnType := some .char }, accessFlags := 10, code := some k1c1 }
def k1c2 : Code := { maxStack := 2, maxLocals := 3, code := method_3_code, exceptionTable := #[], attributes := #[] }
def k1m2 : Method := { name := "kept", desc := "([CII)Z", sig := { parameters := [(.array .char), .int, .int], returnType := some .boolean }, accessFlags := 10, code := some k1c2 }
def k1c3 : Code := { maxStack := 7, maxLocals := 2, code := method_4_code, exceptionTable := #[], attributes := #[] }
def k1m3 : Method := { name := "make", desc := "([CI)Ljava/lang/String;", sig := { parameters := [(.array .char), .int], returnType := some (.object "java/lang/String") }, accessFlags := 10, code := some k1c3 }
def k1c4 : Code := { maxStack := 4, maxLocals := 13, code := code, exceptionTable := #[], attributes := #[] }
def k1m4 : Method := { name := "law", desc := "(IIIII)Z", sig := { parameters := [.int, .int, .int, .int, .int], returnType := some .boolean }, accessFlags := 9, code := some k1c4 }
/-- com/example/brokerward/brokerward/http/RequestHeadTrimPinLaw -/
def k1 : Class := { plain "com/example/brokerward/brokerward/http/RequestHeadTrimPinLaw" (some 0) with
  accessFlags := 49
  interfaces := #[]
  cf := some (fileOf pool1 14 #[] #[{ accessFlags := 1, nameIndex := 5, descriptorIndex := 6, attributes := #[] }, { accessFlags := 10, nameIndex := 17, descriptorIndex := 18, attributes := #[] }, { accessFlags := 10, nameIndex := 25, descriptorIndex := 26, attributes := #[] }, { accessFlags := 10, nameIndex := 21, descriptorIndex := 22, attributes := #[] }, { accessFlags := 9, nameIndex := 43, descriptorIndex := 44, attributes := #[] }] 49 2 #[] #[])
  fields := #[]
  methods := #[k1m0, k1m1, k1m2, k1m3, k1m4]
  instanceTypes := #[]
  staticTypes := #[]
  resolved := Array.replicate 49 none
  statics := none }

def pool2 : Array CpInfo := pool [(1, .class_ 2), (0, u "java/io/Serializable"), (0, .class_ 4), (0, u "java/lang/Object")] 2

/-- java/io/Serializable -/
def k2 : Class := { plain "java/io/Serializable" (some 0) with
  accessFlags := 1537
  interfaces := #[]
  cf := some (fileOf pool2 1 #[] #[] 1537 3 #[] #[])
  fields := #[]
  methods := #[]
  instanceTypes := #[]
  staticTypes := #[]
  resolved := Array.replicate 7 none
  statics := none }

def pool3 : Array CpInfo := pool [(1, .class_ 2), (0, u "java/lang/Comparable"), (0, .class_ 4), (0, u "java/lang/Object")] 7

/-- java/lang/Comparable -/
def k3 : Class := { plain "java/lang/Comparable" (some 0) with
  accessFlags := 1537
  interfaces := #[]
  cf := some (fileOf pool3 1 #[] #[] 1537 3 #[] #[])
  fields := #[]
  methods := #[]
  instanceTypes := #[]
  staticTypes := #[]
  resolved := Array.replicate 12 none
  statics := none }

def pool4 : Array CpInfo := pool [(2, .class_ 4), (1, u "java/lang/CharSequence"), (42, .class_ 48), (0, u "java/lang/CharSequence$1CodePointIterator"), (10, .class_ 60), (0, u "java/lang/CharSequence$1CharIterator"), (5, .class_ 67), (0, u "java/lang/Object")] 63

/-- java/lang/CharSequence -/
def k4 : Class := { plain "java/lang/CharSequence" (some 0) with
  accessFlags := 1537
  interfaces := #[]
  cf := some (fileOf pool4 2 #[.nestMembers #[47, 59]] #[] 1537 66 #[] #[])
  fields := #[]
  methods := #[]
  instanceTypes := #[]
  staticTypes := #[]
  resolved := Array.replicate 131 none
  statics := none }

def pool5 : Array CpInfo := pool [(1, .class_ 2), (0, u "java/lang/constant/Constable"), (0, .class_ 4), (0, u "java/lang/Object")] 6

/-- java/lang/constant/Constable -/
def k5 : Class := { plain "java/lang/constant/Constable" (some 0) with
  accessFlags := 1537
  interfaces := #[]
  cf := some (fileOf pool5 1 #[] #[] 1537 3 #[] #[])
  fields := #[]
  methods := #[]
  instanceTypes := #[]
  staticTypes := #[]
  resolved := Array.replicate 11 none
  statics := none }

def pool6 : Array CpInfo := pool [(1, .class_ 2), (0, u "java/lang/constant/ConstantDesc"), (0, .class_ 4), (0, u "java/lang/Object")] 32

/-- java/lang/constant/ConstantDesc -/
def k6 : Class := { plain "java/lang/constant/ConstantDesc" (some 0) with
  accessFlags := 1537
  interfaces := #[]
  cf := some (fileOf pool6 1 #[] #[] 1537 3 #[] #[])
  fields := #[]
  methods := #[]
  instanceTypes := #[]
  staticTypes := #[]
  resolved := Array.replicate 37 none
  statics := none }

def pool7 : Array CpInfo := pool [(1, .methodref 2 3), (0, .class_ 4), (0, .nameAndType 5 6), (0, u "java/lang/Object"), (0, u "<init>"), (0, u "()V"), (0, .string 8), (0, u ""), (0, .fieldref 10 11), (0, .class_ 12), (0, .nameAndType 13 14), (0, u "java/lang/String"), (0, u "value"), (0, u "[B"), (0, .fieldref 10 16), (0, .nameAndType 17 18), (0, u "coder"), (0, u "B"), (2, u "hash"), (0, u "I"), (2, u "hashIsZero"), (0, u "Z"), (0, .methodref 10 28), (0, .nameAndType 5 29), (0, u "([CIILjava/lang/Void;)V"), (8, .fieldref 10 39), (0, .nameAndType 40 26), (0, u "COMPACT_STRINGS"), (1, .class_ 44), (1, u "java/lang/StringUTF16"), (0, u "compress"), (1, .methodref 42 48), (0, .nameAndType 49 50), (0, u "coderFromArrayLen"), (0, u "([BI)B"), (56, .class_ 109), (1, u "java/lang/StringLatin1"), (32, u "()Z"), (34, .methodref 42 178), (0, .nameAndType 45 179), (0, u "([CII)[B"), (31, u "([BB)V"), (122, u "()I"), (0, .methodref 10 336), (0, .nameAndType 17 337), (0, u "()B"), (25, u "([BI)C"), (27, u "(II)V"), (35, u "(I)C"), (64, .methodref 10 493), (0, .nameAndType 494 142), (0, u "isLatin1"), (0, .methodref 107 496), (0, .nameAndType 497 363), (0, u "charAt"), (3, u "checkIndex"), (3, .methodref 10 506), (0, .nameAndType 507 334), (0, u "length"), (5, u "checkFromToIndex"), (7, .methodref 10 522), (0, .nameAndType 523 524), (0, u "checkBoundsBeginEnd"), (0, u "(III)V"), (50, .class_ 576), (0, u "java/lang/CharSequence"), (22, u "CASE_INSENSITIVE_ORDER"), (0, u "Ljava/util/Comparator;"), (82, u "substring"), (0, u "(II)Ljava/lang/String;"), (0, .methodref 107 686), (0, .nameAndType 687 688), (0, u "newString"), (0, u "([BII)Ljava/lang/String;"), (321, u "([C)V"), (42, .fieldref 1054 1055), (0, .class_ 1056), (0, .nameAndType 1057 1058), (0, u "jdk/internal/util/Preconditions"), (0, u "SIOOBE_FORMATTER"), (0, u "Ljava/util/function/BiFunction;"), (0, .methodref 1054 1060), (0, .nameAndType 501 1061), (0, u "(IILjava/util/function/BiFunction;)I"), (0, .methodref 1054 1063), (0, .nameAndType 513 1064), (0, u "(IIILjava/util/function/BiFunction;)I"), (36, u "serialPersistentFields"), (0, u "[Ljava/io/ObjectStreamField;"), (0, .class_ 1104), (0, u "java/lang/String$CaseInsensitiveComparator"), (1, .class_ 1107), (0, u "java/io/Serializable"), (0, .class_ 1109), (0, u "java/lang/Comparable"), (0, .class_ 1111), (0, u "java/lang/constant/Constable"), (0, .class_ 1113), (0, u "java/lang/constant/ConstantDesc"), (2, u "serialVersionUID"), (0, u "J"), (3, u "REPL"), (0, u "C"), (2, u "LATIN1"), (1, u "UTF16")] 323

def k7m0 : Method := { name := "<init>", desc := "()V", sig := { parameters := [], returnType := none }, accessFlags := 1, code := none }
def k7c1 : Code := { maxStack := 5, maxLocals := 2, code := jdk_42_method_3_code, exceptionTable := #[], attributes := #[] }
def k7m1 : Method := { name := "<init>", desc := "([C)V", sig := { parameters := [(.array .char)], returnType := none }, accessFlags := 1, code := some k7c1 }
def k7c2 : Code := { maxStack := 2, maxLocals := 1, code := jdk_42_method_54_code, exceptionTable := #[], attributes := #[] }
def k7m2 : Method := { name := "length", desc := "()I", sig := { parameters := [], returnType := some .int }, accessFlags := 1, code := some k7c2 }
def k7c3 : Code := { maxStack := 2, maxLocals := 2, code := jdk_42_method_56_code, exceptionTable := #[], attributes := #[] }
def k7m3 : Method := { name := "charAt", desc := "(I)C", sig := { parameters := [.int], returnType := some .char }, accessFlags := 1, code := some k7c3 }
def k7c4 : Code := { maxStack := 3, maxLocals := 5, code := jdk_42_method_92_code, exceptionTable := #[], attributes := #[] }
def k7m4 : Method := { name := "substring", desc := "(II)Ljava/lang/String;", sig := { parameters := [.int, .int], returnType := some (.object "java/lang/String") }, accessFlags := 1, code := some k7c4 }
def k7c5 : Code := { maxStack := 4, maxLocals := 6, code := jdk_42_method_149_code, exceptionTable := #[], attributes := #[] }
def k7m5 : Method := { name := "<init>", desc := "([CIILjava/lang/Void;)V", sig := { parameters := [(.array .char), .int, .int, (.object "java/lang/Void")], returnType := none }, accessFlags := 2, code := some k7c5 }
def k7c6 : Code := { maxStack := 2, maxLocals := 3, code := jdk_42_method_151_code, exceptionTable := #[], attributes := #[] }
def k7m6 : Method := { name := "<init>", desc := "([BB)V", sig := { parameters := [(.array .byte), .byte], returnType := none }, accessFlags := 0, code := some k7c6 }
def k7c7 : Code := { maxStack := 1, maxLocals := 1, code := jdk_42_method_152_code, exceptionTable := #[], attributes := #[] }
def k7m7 : Method := { name := "coder", desc := "()B", sig := { parameters := [], returnType := some .byte }, accessFlags := 0, code := some k7c7 }
def k7c8 : Code := { maxStack := 1, maxLocals := 1, code := jdk_42_method_154_code, exceptionTable := #[], attributes := #[] }
def k7m8 : Method := { name := "isLatin1", desc := "()Z", sig := { parameters := [], returnType := some .boolean }, accessFlags := 0, code := some k7c8 }
def k7c9 : Code := { maxStack := 3, maxLocals := 2, code := jdk_42_method_155_code, exceptionTable := #[], attributes := #[] }
def k7m9 : Method := { name := "checkIndex", desc := "(II)V", sig := { parameters := [.int, .int], returnType := none }, accessFlags := 8, code := some k7c9 }
def k7c10 : Code := { maxStack := 4, maxLocals := 3, code := jdk_42_method_158_code, exceptionTable := #[], attributes := #[] }
def k7m10 : Method := { name := "checkBoundsBeginEnd", desc := "(III)V", sig := { parameters := [.int, .int, .int], returnType := none }, accessFlags := 8, code := some k7c10 }
/-- java/lang/String -/
def k7 : Class := { plain "java/lang/String" (some 0) with
  accessFlags := 49
  interfaces := #[2, 3, 4, 5, 6]
  cf := some (fileOf pool7 10 #[.nestMembers #[1103]] #[{ accessFlags := 1, nameIndex := 5, descriptorIndex := 6, attributes := #[] }, { accessFlags := 1, nameIndex := 5, descriptorIndex := 1010, attributes := #[] }, { accessFlags := 1, nameIndex := 507, descriptorIndex := 334, attributes := #[] }, { accessFlags := 1, nameIndex := 497, descriptorIndex := 427, attributes := #[] }, { accessFlags := 1, nameIndex := 683, descriptorIndex := 684, attributes := #[] }, { accessFlags := 2, nameIndex := 5, descriptorIndex := 29, attributes := #[] }, { accessFlags := 0, nameIndex := 5, descriptorIndex := 211, attributes := #[] }, { accessFlags := 0, nameIndex := 17, descriptorIndex := 337, attributes := #[] }, { accessFlags := 0, nameIndex := 494, descriptorIndex := 142, attributes := #[] }, { accessFlags := 8, nameIndex := 501, descriptorIndex := 391, attributes := #[] }, { accessFlags := 8, nameIndex := 523, descriptorIndex := 524, attributes := #[] }] 49 2 #[1106, 1108, 575, 1110, 1112] #[{ accessFlags := 18, nameIndex := 13, descriptorIndex := 14, attributes := #[] }, { accessFlags := 18, nameIndex := 17, descriptorIndex := 18, attributes := #[] }, { accessFlags := 2, nameIndex := 21, descriptorIndex := 22, attributes := #[] }, { accessFlags := 2, nameIndex := 25, descriptorIndex := 26, attributes := #[] }, { accessFlags := 26, nameIndex := 1116, descriptorIndex := 1117, attributes := #[] }, { accessFlags := 24, nameIndex := 40, descriptorIndex := 26, attributes := #[] }, { accessFlags := 26, nameIndex := 1101, descriptorIndex := 1102, attributes := #[] }, { accessFlags := 26, nameIndex := 1121, descriptorIndex := 1122, attributes := #[] }, { accessFlags := 25, nameIndex := 599, descriptorIndex := 600, attributes := #[] }, { accessFlags := 24, nameIndex := 1125, descriptorIndex := 18, attributes := #[] }, { accessFlags := 24, nameIndex := 1127, descriptorIndex := 18, attributes := #[] }])
  fields := #[{ name := "value", type := (.array .byte), accessFlags := 18, slot := 0, constantValue := 0 }, { name := "coder", type := .byte, accessFlags := 18, slot := 1, constantValue := 0 }, { name := "hash", type := .int, accessFlags := 2, slot := 2, constantValue := 0 }, { name := "hashIsZero", type := .boolean, accessFlags := 2, slot := 3, constantValue := 0 }, { name := "serialVersionUID", type := .long, accessFlags := 26, slot := 0, constantValue := 0 }, { name := "COMPACT_STRINGS", type := .boolean, accessFlags := 24, slot := 1, constantValue := 0 }, { name := "serialPersistentFields", type := (.array (.object "java/io/ObjectStreamField")), accessFlags := 26, slot := 2, constantValue := 0 }, { name := "REPL", type := .char, accessFlags := 26, slot := 3, constantValue := 0 }, { name := "CASE_INSENSITIVE_ORDER", type := (.object "java/util/Comparator"), accessFlags := 25, slot := 4, constantValue := 0 }, { name := "LATIN1", type := .byte, accessFlags := 24, slot := 5, constantValue := 0 }, { name := "UTF16", type := .byte, accessFlags := 24, slot := 6, constantValue := 0 }]
  methods := #[k7m0, k7m1, k7m2, k7m3, k7m4, k7m5, k7m6, k7m7, k7m8, k7m9, k7m10]
  instanceTypes := #[(.array .byte), .byte, .int, .boolean]
  staticTypes := #[.long, .boolean, (.array (.object "java/io/ObjectStreamField")), .char, (.object "java/util/Comparator"), .byte, .byte]
  resolved := Array.replicate 1451 none
  statics := some 0 }

def pool8 : Array CpInfo := pool [(2, .class_ 4), (1, u "java/lang/Object"), (0, u "<init>"), (0, u "()V"), (0, .class_ 8), (0, u "java/lang/Record")] 13

def k8m0 : Method := { name := "<init>", desc := "()V", sig := { parameters := [], returnType := none }, accessFlags := 4, code := none }
/-- java/lang/Record -/
def k8 : Class := { plain "java/lang/Record" (some 0) with
  accessFlags := 1057
  interfaces := #[]
  cf := some (fileOf pool8 7 #[] #[{ accessFlags := 4, nameIndex := 5, descriptorIndex := 6, attributes := #[] }] 1057 2 #[] #[])
  fields := #[]
  methods := #[k8m0]
  instanceTypes := #[]
  staticTypes := #[]
  resolved := Array.replicate 22 none
  statics := none }

def pool9 : Array CpInfo := pool [(2, .class_ 4), (1, u "java/lang/Record"), (3, .class_ 10), (1, u "com/example/brokerward/brokerward/http/RequestHead"), (0, u "method"), (0, u "Ljava/lang/String;"), (2, u "path"), (2, u "bodyLength"), (0, u "J"), (2, u "chunked"), (0, u "Z"), (2, u "keepAlive"), (2, u "expectsContinue"), (5, .class_ 37), (1, u "java/lang/String"), (11, .methodref 35 50), (0, .nameAndType 51 52), (0, u "substring"), (0, u "(II)Ljava/lang/String;"), (7, .methodref 35 61), (0, .nameAndType 62 63), (0, u "length"), (0, u "()I"), (13, .class_ 79), (1, u "com/example/brokerward/brokerward/http/RequestHead$Fields"), (1, u "I"), (34, u "(Ljava/lang/String;)Ljava/lang/String;"), (29, u "trim"), (124, .methodref 35 272), (0, .nameAndType 273 274), (0, u "charAt"), (0, u "(I)C"), (0, .methodref 8 276), (0, .nameAndType 277 278), (0, u "isBlank"), (0, u "(C)Z"), (23, u "MAX_LINE_BYTES"), (2, u "MAX_FIELDS"), (1, u "MAX_FIELD_BYTES"), (0, u "MAX_EMPTY_LINES"), (1, u "MAX_LENGTH_DIGITS"), (1, u "TOKEN_SYMBOLS"), (0, u "PATH_SYMBOLS"), (0, u "MALFORMED_REQUEST_LINE"), (0, u "TWO_FRAMINGS")] 49

def k9c0 : Code := { maxStack := 3, maxLocals := 3, code := prog_25_method_11_code, exceptionTable := #[], attributes := #[] }
def k9m0 : Method := { name := "trim", desc := "(Ljava/lang/String;)Ljava/lang/String;", sig := { parameters := [(.object "java/lang/String")], returnType := some (.object "java/lang/String") }, accessFlags := 8, code := some k9c0 }
def k9c1 : Code := { maxStack := 2, maxLocals := 1, code := prog_25_method_18_code, exceptionTable := #[], attributes := #[] }
def k9m1 : Method := { name := "isBlank", desc := "(C)Z", sig := { parameters := [.char], returnType := some .boolean }, accessFlags := 10, code := some k9c1 }
/-- com/example/brokerward/brokerward/http/RequestHead -/
def k9 : Class := { plain "com/example/brokerward/brokerward/http/RequestHead" (some 8) with
  accessFlags := 48
  interfaces := #[]
  cf := some (fileOf pool9 8 #[.nestMembers #[77]] #[{ accessFlags := 8, nameIndex := 146, descriptorIndex := 116, attributes := #[] }, { accessFlags := 10, nameIndex := 277, descriptorIndex := 278, attributes := #[] }] 48 2 #[] #[{ accessFlags := 18, nameIndex := 11, descriptorIndex := 12, attributes := #[] }, { accessFlags := 18, nameIndex := 15, descriptorIndex := 12, attributes := #[] }, { accessFlags := 18, nameIndex := 18, descriptorIndex := 19, attributes := #[] }, { accessFlags := 18, nameIndex := 22, descriptorIndex := 23, attributes := #[] }, { accessFlags := 18, nameIndex := 26, descriptorIndex := 23, attributes := #[] }, { accessFlags := 18, nameIndex := 29, descriptorIndex := 23, attributes := #[] }, { accessFlags := 26, nameIndex := 302, descriptorIndex := 81, attributes := #[] }, { accessFlags := 26, nameIndex := 305, descriptorIndex := 81, attributes := #[] }, { accessFlags := 26, nameIndex := 307, descriptorIndex := 81, attributes := #[] }, { accessFlags := 26, nameIndex := 308, descriptorIndex := 81, attributes := #[] }, { accessFlags := 26, nameIndex := 310, descriptorIndex := 81, attributes := #[] }, { accessFlags := 26, nameIndex := 312, descriptorIndex := 12, attributes := #[] }, { accessFlags := 26, nameIndex := 313, descriptorIndex := 12, attributes := #[] }, { accessFlags := 26, nameIndex := 314, descriptorIndex := 12, attributes := #[] }, { accessFlags := 26, nameIndex := 315, descriptorIndex := 12, attributes := #[] }])
  fields := #[{ name := "method", type := (.object "java/lang/String"), accessFlags := 18, slot := 0, constantValue := 0 }, { name := "path", type := (.object "java/lang/String"), accessFlags := 18, slot := 1, constantValue := 0 }, { name := "bodyLength", type := .long, accessFlags := 18, slot := 2, constantValue := 0 }, { name := "chunked", type := .boolean, accessFlags := 18, slot := 3, constantValue := 0 }, { name := "keepAlive", type := .boolean, accessFlags := 18, slot := 4, constantValue := 0 }, { name := "expectsContinue", type := .boolean, accessFlags := 18, slot := 5, constantValue := 0 }, { name := "MAX_LINE_BYTES", type := .int, accessFlags := 26, slot := 0, constantValue := 0 }, { name := "MAX_FIELDS", type := .int, accessFlags := 26, slot := 1, constantValue := 0 }, { name := "MAX_FIELD_BYTES", type := .int, accessFlags := 26, slot := 2, constantValue := 0 }, { name := "MAX_EMPTY_LINES", type := .int, accessFlags := 26, slot := 3, constantValue := 0 }, { name := "MAX_LENGTH_DIGITS", type := .int, accessFlags := 26, slot := 4, constantValue := 0 }, { name := "TOKEN_SYMBOLS", type := (.object "java/lang/String"), accessFlags := 26, slot := 5, constantValue := 0 }, { name := "PATH_SYMBOLS", type := (.object "java/lang/String"), accessFlags := 26, slot := 6, constantValue := 0 }, { name := "MALFORMED_REQUEST_LINE", type := (.object "java/lang/String"), accessFlags := 26, slot := 7, constantValue := 0 }, { name := "TWO_FRAMINGS", type := (.object "java/lang/String"), accessFlags := 26, slot := 8, constantValue := 0 }]
  methods := #[k9m0, k9m1]
  instanceTypes := #[(.object "java/lang/String"), (.object "java/lang/String"), .long, .boolean, .boolean, .boolean]
  staticTypes := #[.int, .int, .int, .int, .int, (.object "java/lang/String"), (.object "java/lang/String"), (.object "java/lang/String"), (.object "java/lang/String")]
  resolved := Array.replicate 365 none
  statics := none }

def pool10 : Array CpInfo := pool [(2, .class_ 4), (1, u "java/lang/Object"), (0, u "<init>"), (0, u "()V"), (17, .class_ 26), (1, u "jdk/internal/util/Preconditions"), (6, u "checkIndex"), (13, u "checkFromToIndex"), (7, .class_ 56), (0, u "jdk/internal/util/Preconditions$4"), (57, .class_ 115), (0, u "jdk/internal/util/Preconditions$1"), (7, u "SIOOBE_FORMATTER"), (0, u "Ljava/util/function/BiFunction;"), (0, .class_ 126), (0, u "jdk/internal/util/Preconditions$2"), (3, u "AIOOBE_FORMATTER"), (0, .class_ 132), (0, u "jdk/internal/util/Preconditions$3"), (3, u "IOOBE_FORMATTER"), (41, u "(IILjava/util/function/BiFunction;)I"), (4, u "(IIILjava/util/function/BiFunction;)I")] 10

def k10m0 : Method := { name := "<init>", desc := "()V", sig := { parameters := [], returnType := none }, accessFlags := 1, code := none }
def k10c1 : Code := { maxStack := 3, maxLocals := 3, code := jdk_41_method_11_code, exceptionTable := #[], attributes := #[] }
def k10m1 : Method := { name := "checkIndex", desc := "(IILjava/util/function/BiFunction;)I", sig := { parameters := [.int, .int, (.object "java/util/function/BiFunction")], returnType := some .int }, accessFlags := 9, code := some k10c1 }
def k10c2 : Code := { maxStack := 4, maxLocals := 4, code := jdk_41_method_12_code, exceptionTable := #[], attributes := #[] }
def k10m2 : Method := { name := "checkFromToIndex", desc := "(IIILjava/util/function/BiFunction;)I", sig := { parameters := [.int, .int, .int, (.object "java/util/function/BiFunction")], returnType := some .int }, accessFlags := 9, code := some k10c2 }
/-- jdk/internal/util/Preconditions -/
def k10 : Class := { plain "jdk/internal/util/Preconditions" (some 0) with
  accessFlags := 33
  interfaces := #[]
  cf := some (fileOf pool10 24 #[.nestMembers #[55, 131, 125, 114]] #[{ accessFlags := 1, nameIndex := 5, descriptorIndex := 6, attributes := #[] }, { accessFlags := 9, nameIndex := 33, descriptorIndex := 178, attributes := #[] }, { accessFlags := 9, nameIndex := 47, descriptorIndex := 183, attributes := #[] }] 33 2 #[] #[{ accessFlags := 25, nameIndex := 123, descriptorIndex := 124, attributes := #[] }, { accessFlags := 25, nameIndex := 130, descriptorIndex := 124, attributes := #[] }, { accessFlags := 25, nameIndex := 136, descriptorIndex := 124, attributes := #[] }])
  fields := #[{ name := "SIOOBE_FORMATTER", type := (.object "java/util/function/BiFunction"), accessFlags := 25, slot := 0, constantValue := 0 }, { name := "AIOOBE_FORMATTER", type := (.object "java/util/function/BiFunction"), accessFlags := 25, slot := 1, constantValue := 0 }, { name := "IOOBE_FORMATTER", type := (.object "java/util/function/BiFunction"), accessFlags := 25, slot := 2, constantValue := 0 }]
  methods := #[k10m0, k10m1, k10m2]
  instanceTypes := #[]
  staticTypes := #[(.object "java/util/function/BiFunction"), (.object "java/util/function/BiFunction"), (.object "java/util/function/BiFunction")]
  resolved := Array.replicate 194 none
  statics := some 1 }

def pool11 : Array CpInfo := pool [(6, .class_ 8), (1, u "java/lang/Object"), (0, u "<init>"), (0, u "()V"), (1, .class_ 14), (1, u "java/lang/StringUTF16"), (31, u "$assertionsDisabled"), (0, u "Z"), (13, u "HI_BYTE_SHIFT"), (0, u "I"), (2, u "LO_BYTE_SHIFT"), (49, .methodref 12 116), (0, .nameAndType 117 118), (0, u "compress"), (0, u "([CI[BII)I"), (3, u "([CII)[B"), (138, u "coderFromArrayLen"), (0, u "([BI)B"), (106, .class_ 371), (1, u "java/lang/StringUTF16$LinesSpliterator"), (58, u "MAX_LENGTH"), (196, .class_ 628), (0, u "java/lang/StringUTF16$CodePointsSpliterator"), (0, .class_ 630), (0, u "java/lang/StringUTF16$CharsSpliterator")] 4

def k11m0 : Method := { name := "<init>", desc := "()V", sig := { parameters := [], returnType := none }, accessFlags := 0, code := none }
def k11c1 : Code := { maxStack := 2, maxLocals := 2, code := jdk_52_method_15_code, exceptionTable := #[], attributes := #[] }
def k11m1 : Method := { name := "coderFromArrayLen", desc := "([BI)B", sig := { parameters := [(.array .byte), .int], returnType := some .byte }, accessFlags := 8, code := some k11c1 }
def k11c2 : Code := { maxStack := 5, maxLocals := 6, code := jdk_52_method_16_code, exceptionTable := #[], attributes := #[] }
def k11m2 : Method := { name := "compress", desc := "([CII)[B", sig := { parameters := [(.array .char), .int, .int], returnType := some (.array .byte) }, accessFlags := 9, code := some k11c2 }
def k11c3 : Code := { maxStack := 3, maxLocals := 7, code := jdk_52_method_21_code, exceptionTable := #[], attributes := #[] }
def k11m3 : Method := { name := "compress", desc := "([CI[BII)I", sig := { parameters := [(.array .char), .int, (.array .byte), .int, .int], returnType := some .int }, accessFlags := 9, code := some k11c3 }
/-- java/lang/StringUTF16 -/
def k11 : Class := { plain "java/lang/StringUTF16" (some 0) with
  accessFlags := 48
  interfaces := #[]
  cf := some (fileOf pool11 12 #[.nestMembers #[627, 629, 369]] #[{ accessFlags := 0, nameIndex := 9, descriptorIndex := 10, attributes := #[] }, { accessFlags := 8, nameIndex := 261, descriptorIndex := 262, attributes := #[] }, { accessFlags := 9, nameIndex := 117, descriptorIndex := 122, attributes := #[] }, { accessFlags := 9, nameIndex := 117, descriptorIndex := 118, attributes := #[] }] 48 6 #[] #[{ accessFlags := 26, nameIndex := 61, descriptorIndex := 62, attributes := #[] }, { accessFlags := 26, nameIndex := 65, descriptorIndex := 62, attributes := #[] }, { accessFlags := 24, nameIndex := 430, descriptorIndex := 62, attributes := #[] }, { accessFlags := 4120, nameIndex := 46, descriptorIndex := 47, attributes := #[] }])
  fields := #[{ name := "HI_BYTE_SHIFT", type := .int, accessFlags := 26, slot := 0, constantValue := 0 }, { name := "LO_BYTE_SHIFT", type := .int, accessFlags := 26, slot := 1, constantValue := 0 }, { name := "MAX_LENGTH", type := .int, accessFlags := 24, slot := 2, constantValue := 0 }, { name := "$assertionsDisabled", type := .boolean, accessFlags := 4120, slot := 3, constantValue := 0 }]
  methods := #[k11m0, k11m1, k11m2, k11m3]
  instanceTypes := #[]
  staticTypes := #[.int, .int, .int, .boolean]
  resolved := Array.replicate 635 none
  statics := none }

def pool12 : Array CpInfo := pool [(1, .class_ 2), (0, u "java/lang/String"), (1, .class_ 6), (1, u "java/lang/Object"), (0, u "<init>"), (0, u "()V"), (0, .methodref 1 10), (0, .nameAndType 11 12), (0, u "checkIndex"), (0, u "(II)V"), (1, .class_ 16), (1, u "java/lang/StringLatin1"), (36, u "([BI)C"), (58, .methodref 1 113), (0, .nameAndType 7 114), (0, u "([BB)V"), (6, u "$assertionsDisabled"), (0, u "Z"), (8, .class_ 133), (1, u "java/util/Arrays"), (17, .string 152), (0, u ""), (43, u "newString"), (0, u "([BII)Ljava/lang/String;"), (23, .class_ 223), (1, u "java/lang/StringLatin1$LinesSpliterator"), (8, .methodref 131 233), (0, .nameAndType 234 235), (0, u "copyOfRange"), (0, u "([BII)[B"), (16, u "charAt"), (137, .class_ 391), (0, u "java/lang/StringLatin1$CharsSpliterator")] 3

def k12m0 : Method := { name := "<init>", desc := "()V", sig := { parameters := [], returnType := none }, accessFlags := 0, code := none }
def k12c1 : Code := { maxStack := 2, maxLocals := 2, code := jdk_43_method_2_code, exceptionTable := #[], attributes := #[] }
def k12m1 : Method := { name := "charAt", desc := "([BI)C", sig := { parameters := [(.array .byte), .int], returnType := some .char }, accessFlags := 9, code := some k12c1 }
def k12c2 : Code := { maxStack := 6, maxLocals := 3, code := jdk_43_method_47_code, exceptionTable := #[], attributes := #[] }
def k12m2 : Method := { name := "newString", desc := "([BII)Ljava/lang/String;", sig := { parameters := [(.array .byte), .int, .int], returnType := some (.object "java/lang/String") }, accessFlags := 9, code := some k12c2 }
/-- java/lang/StringLatin1 -/
def k12 : Class := { plain "java/lang/StringLatin1" (some 0) with
  accessFlags := 48
  interfaces := #[]
  cf := some (fileOf pool12 14 #[.nestMembers #[390, 221]] #[{ accessFlags := 0, nameIndex := 7, descriptorIndex := 8, attributes := #[] }, { accessFlags := 9, nameIndex := 252, descriptorIndex := 53, attributes := #[] }, { accessFlags := 9, nameIndex := 196, descriptorIndex := 197, attributes := #[] }] 48 4 #[] #[{ accessFlags := 4120, nameIndex := 121, descriptorIndex := 122, attributes := #[] }])
  fields := #[{ name := "$assertionsDisabled", type := .boolean, accessFlags := 4120, slot := 0, constantValue := 0 }]
  methods := #[k12m0, k12m1, k12m2]
  instanceTypes := #[]
  staticTypes := #[.boolean]
  resolved := Array.replicate 395 none
  statics := none }

def pool13 : Array CpInfo := pool [(2, .class_ 4), (1, u "java/lang/Object"), (0, u "<init>"), (0, u "()V"), (7, .class_ 16), (1, u "java/util/Arrays"), (57, .class_ 76), (1, u "java/util/Arrays$NaturalOrder"), (36, .class_ 115), (1, u "java/util/Arrays$LegacyMergeSort"), (1, u "Z"), (21, u "copyOfRange"), (10, .methodref 151 152), (0, .class_ 153), (0, .nameAndType 154 155), (0, u "java/lang/System"), (0, u "arraycopy"), (0, u "(Ljava/lang/Object;ILjava/lang/Object;II)V"), (148, .methodref 305 306), (0, .class_ 307), (0, .nameAndType 308 309), (0, u "java/lang/Math"), (0, u "min"), (0, u "(II)I"), (29, .methodref 14 340), (0, .nameAndType 341 342), (0, u "copyOfRangeByte"), (0, u "([BII)[B"), (0, .methodref 14 344), (0, .nameAndType 345 346), (0, u "checkLength"), (0, u "(II)V"), (28, .class_ 376), (0, u "java/util/Arrays$ArrayList"), (68, u "$assertionsDisabled"), (269, u "MIN_ARRAY_SORT_GRAN"), (0, u "I"), (2, u "INSERTIONSORT_THRESHOLD"), (255, .class_ 976), (0, u "java/util/Arrays$ArrayItr")] 52

def k13m0 : Method := { name := "<init>", desc := "()V", sig := { parameters := [], returnType := none }, accessFlags := 2, code := none }
def k13c1 : Code := { maxStack := 4, maxLocals := 2, code := jdk_65_method_131_code, exceptionTable := #[], attributes := #[] }
def k13m1 : Method := { name := "checkLength", desc := "(II)V", sig := { parameters := [.int, .int], returnType := none }, accessFlags := 10, code := some k13c1 }
def k13c2 : Code := { maxStack := 3, maxLocals := 3, code := jdk_65_method_132_code, exceptionTable := #[], attributes := #[] }
def k13m2 : Method := { name := "copyOfRange", desc := "([BII)[B", sig := { parameters := [(.array .byte), .int, .int], returnType := some (.array .byte) }, accessFlags := 9, code := some k13c2 }
def k13c3 : Code := { maxStack := 6, maxLocals := 5, code := jdk_65_method_133_code, exceptionTable := #[], attributes := #[] }
def k13m3 : Method := { name := "copyOfRangeByte", desc := "([BII)[B", sig := { parameters := [(.array .byte), .int, .int], returnType := some (.array .byte) }, accessFlags := 10, code := some k13c3 }
/-- java/util/Arrays -/
def k13 : Class := { plain "java/util/Arrays" (some 0) with
  accessFlags := 49
  interfaces := #[]
  cf := some (fileOf pool13 14 #[.nestMembers #[975, 375, 113, 74]] #[{ accessFlags := 2, nameIndex := 5, descriptorIndex := 6, attributes := #[] }, { accessFlags := 10, nameIndex := 345, descriptorIndex := 346, attributes := #[] }, { accessFlags := 9, nameIndex := 139, descriptorIndex := 342, attributes := #[] }, { accessFlags := 10, nameIndex := 341, descriptorIndex := 342, attributes := #[] }] 49 2 #[] #[{ accessFlags := 26, nameIndex := 715, descriptorIndex := 716, attributes := #[] }, { accessFlags := 26, nameIndex := 719, descriptorIndex := 716, attributes := #[] }, { accessFlags := 4120, nameIndex := 445, descriptorIndex := 117, attributes := #[] }])
  fields := #[{ name := "MIN_ARRAY_SORT_GRAN", type := .int, accessFlags := 26, slot := 0, constantValue := 0 }, { name := "INSERTIONSORT_THRESHOLD", type := .int, accessFlags := 26, slot := 1, constantValue := 0 }, { name := "$assertionsDisabled", type := .boolean, accessFlags := 4120, slot := 2, constantValue := 0 }]
  methods := #[k13m0, k13m1, k13m2, k13m3]
  instanceTypes := #[]
  staticTypes := #[.int, .int, .boolean]
  resolved := Array.replicate 1029 none
  statics := none }

def pool14 : Array CpInfo := pool [(1, .class_ 2), (0, u "java/lang/Math"), (1, .class_ 6), (1, u "java/lang/Object"), (0, u "<init>"), (0, u "()V"), (89, .class_ 100), (1, u "java/lang/Math$RandomNumberGeneratorHolder"), (71, u "negativeZeroFloatBits"), (0, u "J"), (2, u "negativeZeroDoubleBits"), (24, u "min"), (43, u "$assertionsDisabled"), (0, u "Z"), (88, u "(II)I"), (2, u "twoToTheDoubleScaleDown"), (0, u "D"), (4, u "twoToTheDoubleScaleUp"), (9, u "E"), (3, u "PI"), (2, u "TAU"), (2, u "DEGREES_TO_RADIANS"), (0, u "RADIANS_TO_DEGREES")] 94

def k14m0 : Method := { name := "<init>", desc := "()V", sig := { parameters := [], returnType := none }, accessFlags := 2, code := none }
def k14c1 : Code := { maxStack := 2, maxLocals := 2, code := jdk_29_method_69_code, exceptionTable := #[], attributes := #[] }
def k14m1 : Method := { name := "min", desc := "(II)I", sig := { parameters := [.int, .int], returnType := some .int }, accessFlags := 9, code := some k14c1 }
/-- java/lang/Math -/
def k14 : Class := { plain "java/lang/Math" (some 0) with
  accessFlags := 49
  interfaces := #[]
  cf := some (fileOf pool14 1 #[.nestMembers #[98]] #[{ accessFlags := 2, nameIndex := 7, descriptorIndex := 8, attributes := #[] }, { accessFlags := 9, nameIndex := 201, descriptorIndex := 335, attributes := #[] }] 49 4 #[] #[{ accessFlags := 25, nameIndex := 354, descriptorIndex := 339, attributes := #[] }, { accessFlags := 25, nameIndex := 358, descriptorIndex := 339, attributes := #[] }, { accessFlags := 25, nameIndex := 361, descriptorIndex := 339, attributes := #[] }, { accessFlags := 26, nameIndex := 364, descriptorIndex := 339, attributes := #[] }, { accessFlags := 26, nameIndex := 365, descriptorIndex := 339, attributes := #[] }, { accessFlags := 26, nameIndex := 172, descriptorIndex := 173, attributes := #[] }, { accessFlags := 26, nameIndex := 176, descriptorIndex := 173, attributes := #[] }, { accessFlags := 8, nameIndex := 344, descriptorIndex := 339, attributes := #[] }, { accessFlags := 8, nameIndex := 338, descriptorIndex := 339, attributes := #[] }, { accessFlags := 4120, nameIndex := 245, descriptorIndex := 246, attributes := #[] }])
  fields := #[{ name := "E", type := .double, accessFlags := 25, slot := 0, constantValue := 0 }, { name := "PI", type := .double, accessFlags := 25, slot := 1, constantValue := 0 }, { name := "TAU", type := .double, accessFlags := 25, slot := 2, constantValue := 0 }, { name := "DEGREES_TO_RADIANS", type := .double, accessFlags := 26, slot := 3, constantValue := 0 }, { name := "RADIANS_TO_DEGREES", type := .double, accessFlags := 26, slot := 4, constantValue := 0 }, { name := "negativeZeroFloatBits", type := .long, accessFlags := 26, slot := 5, constantValue := 0 }, { name := "negativeZeroDoubleBits", type := .long, accessFlags := 26, slot := 6, constantValue := 0 }, { name := "twoToTheDoubleScaleUp", type := .double, accessFlags := 8, slot := 7, constantValue := 0 }, { name := "twoToTheDoubleScaleDown", type := .double, accessFlags := 8, slot := 8, constantValue := 0 }, { name := "$assertionsDisabled", type := .boolean, accessFlags := 4120, slot := 9, constantValue := 0 }]
  methods := #[k14m0, k14m1]
  instanceTypes := #[]
  staticTypes := #[.double, .double, .double, .double, .double, .long, .long, .double, .double, .boolean]
  resolved := Array.replicate 460 none
  statics := none }

def pool15 : Array CpInfo := pool [(2, .class_ 4), (1, u "java/lang/Object"), (0, u "<init>"), (0, u "()V"), (1, .class_ 10), (1, u "java/lang/System"), (0, u "allowSecurityManager"), (0, u "I"), (16, u "cons"), (0, u "Ljava/io/Console;"), (77, .class_ 110), (1, u "java/lang/System$CallersHolder"), (43, u "initialErrStream"), (0, u "Ljava/io/PrintStream;"), (19, u "security"), (0, u "Ljava/lang/SecurityManager;"), (31, .class_ 209), (0, u "java/lang/System$1"), (7, u "props"), (0, u "Ljava/util/Properties;"), (2, u "lineSeparator"), (0, u "Ljava/lang/String;"), (96, .class_ 321), (1, u "java/lang/System$LoggerFinder"), (5, .class_ 328), (0, u "java/lang/System$Logger"), (67, u "err"), (2, u "out"), (91, u "notSupportedJnuEncoding"), (15, u "in"), (17, u "initialIn"), (0, u "Ljava/io/InputStream;"), (35, u "bootLayer"), (0, u "Ljava/lang/ModuleLayer;"), (99, .class_ 664), (0, u "java/lang/System$2"), (9, u "NEVER"), (2, u "MAYBE"), (49, u "arraycopy"), (0, u "(Ljava/lang/Object;ILjava/lang/Object;II)V"), (72, .class_ 802), (0, u "java/lang/System$Logger$Level")] 31

def k15m0 : Method := { name := "<init>", desc := "()V", sig := { parameters := [], returnType := none }, accessFlags := 2, code := none }
def k15m1 : Method := { name := "arraycopy", desc := "(Ljava/lang/Object;ILjava/lang/Object;II)V", sig := { parameters := [(.object "java/lang/Object"), .int, (.object "java/lang/Object"), .int, .int], returnType := none }, accessFlags := 265, code := none }
/-- java/lang/System -/
def k15 : Class := { plain "java/lang/System" (some 0) with
  accessFlags := 49
  interfaces := #[]
  cf := some (fileOf pool15 8 #[.nestMembers #[319, 327, 801, 108, 663, 208]] #[{ accessFlags := 2, nameIndex := 5, descriptorIndex := 6, attributes := #[] }, { accessFlags := 265, nameIndex := 727, descriptorIndex := 728, attributes := #[] }] 49 2 #[] #[{ accessFlags := 25, nameIndex := 507, descriptorIndex := 526, attributes := #[] }, { accessFlags := 25, nameIndex := 399, descriptorIndex := 155, attributes := #[] }, { accessFlags := 25, nameIndex := 396, descriptorIndex := 155, attributes := #[] }, { accessFlags := 10, nameIndex := 525, descriptorIndex := 526, attributes := #[] }, { accessFlags := 26, nameIndex := 674, descriptorIndex := 12, attributes := #[] }, { accessFlags := 26, nameIndex := 677, descriptorIndex := 12, attributes := #[] }, { accessFlags := 10, nameIndex := 11, descriptorIndex := 12, attributes := #[] }, { accessFlags := 74, nameIndex := 175, descriptorIndex := 176, attributes := #[] }, { accessFlags := 10, nameIndex := 491, descriptorIndex := 222, attributes := #[] }, { accessFlags := 74, nameIndex := 29, descriptorIndex := 30, attributes := #[] }, { accessFlags := 74, nameIndex := 154, descriptorIndex := 155, attributes := #[] }, { accessFlags := 10, nameIndex := 217, descriptorIndex := 218, attributes := #[] }, { accessFlags := 10, nameIndex := 221, descriptorIndex := 222, attributes := #[] }, { accessFlags := 8, nameIndex := 562, descriptorIndex := 563, attributes := #[] }])
  fields := #[{ name := "in", type := (.object "java/io/InputStream"), accessFlags := 25, slot := 0, constantValue := 0 }, { name := "out", type := (.object "java/io/PrintStream"), accessFlags := 25, slot := 1, constantValue := 0 }, { name := "err", type := (.object "java/io/PrintStream"), accessFlags := 25, slot := 2, constantValue := 0 }, { name := "initialIn", type := (.object "java/io/InputStream"), accessFlags := 10, slot := 3, constantValue := 0 }, { name := "NEVER", type := .int, accessFlags := 26, slot := 4, constantValue := 0 }, { name := "MAYBE", type := .int, accessFlags := 26, slot := 5, constantValue := 0 }, { name := "allowSecurityManager", type := .int, accessFlags := 10, slot := 6, constantValue := 0 }, { name := "security", type := (.object "java/lang/SecurityManager"), accessFlags := 74, slot := 7, constantValue := 0 }, { name := "notSupportedJnuEncoding", type := (.object "java/lang/String"), accessFlags := 10, slot := 8, constantValue := 0 }, { name := "cons", type := (.object "java/io/Console"), accessFlags := 74, slot := 9, constantValue := 0 }, { name := "initialErrStream", type := (.object "java/io/PrintStream"), accessFlags := 74, slot := 10, constantValue := 0 }, { name := "props", type := (.object "java/util/Properties"), accessFlags := 10, slot := 11, constantValue := 0 }, { name := "lineSeparator", type := (.object "java/lang/String"), accessFlags := 10, slot := 12, constantValue := 0 }, { name := "bootLayer", type := (.object "java/lang/ModuleLayer"), accessFlags := 8, slot := 13, constantValue := 0 }]
  methods := #[k15m0, k15m1]
  instanceTypes := #[]
  staticTypes := #[(.object "java/io/InputStream"), (.object "java/io/PrintStream"), (.object "java/io/PrintStream"), (.object "java/io/InputStream"), .int, .int, .int, (.object "java/lang/SecurityManager"), (.object "java/lang/String"), (.object "java/io/Console"), (.object "java/io/PrintStream"), (.object "java/util/Properties"), (.object "java/lang/String"), (.object "java/lang/ModuleLayer")]
  resolved := Array.replicate 834 none
  statics := none }

def pool16 : Array CpInfo := pool [(9, u "<init>"), (6, .class_ 18), (1, u "java/lang/Object"), (0, u "()V"), (1, .class_ 23), (1, u "jdk/internal/util/ArraysSupport"), (0, u "LOG2_ARRAY_LONG_INDEX_SCALE"), (0, u "I"), (2, u "U"), (0, u "Ljdk/internal/misc/Unsafe;"), (8, u "BIG_ENDIAN"), (0, u "Z"), (8, u "LOG2_BYTE_BIT_SIZE"), (4, u "LOG2_ARRAY_INT_INDEX_SCALE"), (54, u "JLA"), (0, u "Ljdk/internal/access/JavaLangAccess;"), (11, u "LOG2_ARRAY_BOOLEAN_INDEX_SCALE"), (9, u "LOG2_ARRAY_BYTE_INDEX_SCALE"), (5, u "LOG2_ARRAY_CHAR_INDEX_SCALE"), (5, u "LOG2_ARRAY_SHORT_INDEX_SCALE"), (18, u "LOG2_ARRAY_FLOAT_INDEX_SCALE"), (24, u "LOG2_ARRAY_DOUBLE_INDEX_SCALE"), (89, u "T_BOOLEAN"), (2, u "T_CHAR"), (1, u "T_FLOAT"), (1, u "T_DOUBLE"), (1, u "T_BYTE"), (1, u "T_SHORT"), (1, u "T_INT"), (1, u "T_LONG"), (1, u "SOFT_MAX_ARRAY_LENGTH")] 83

def k16m0 : Method := { name := "<init>", desc := "()V", sig := { parameters := [], returnType := none }, accessFlags := 2, code := none }
/-- jdk/internal/util/ArraysSupport -/
def k16 : Class := { plain "jdk/internal/util/ArraysSupport" (some 0) with
  accessFlags := 33
  interfaces := #[]
  cf := some (fileOf pool16 21 #[] #[{ accessFlags := 2, nameIndex := 9, descriptorIndex := 19, attributes := #[] }] 33 16 #[] #[{ accessFlags := 24, nameIndex := 28, descriptorIndex := 29, attributes := #[] }, { accessFlags := 26, nameIndex := 38, descriptorIndex := 39, attributes := #[] }, { accessFlags := 25, nameIndex := 121, descriptorIndex := 25, attributes := #[] }, { accessFlags := 25, nameIndex := 131, descriptorIndex := 25, attributes := #[] }, { accessFlags := 25, nameIndex := 137, descriptorIndex := 25, attributes := #[] }, { accessFlags := 25, nameIndex := 143, descriptorIndex := 25, attributes := #[] }, { accessFlags := 25, nameIndex := 53, descriptorIndex := 25, attributes := #[] }, { accessFlags := 25, nameIndex := 24, descriptorIndex := 25, attributes := #[] }, { accessFlags := 25, nameIndex := 162, descriptorIndex := 25, attributes := #[] }, { accessFlags := 25, nameIndex := 187, descriptorIndex := 25, attributes := #[] }, { accessFlags := 26, nameIndex := 48, descriptorIndex := 25, attributes := #[] }, { accessFlags := 25, nameIndex := 277, descriptorIndex := 25, attributes := #[] }, { accessFlags := 25, nameIndex := 280, descriptorIndex := 25, attributes := #[] }, { accessFlags := 25, nameIndex := 282, descriptorIndex := 25, attributes := #[] }, { accessFlags := 25, nameIndex := 284, descriptorIndex := 25, attributes := #[] }, { accessFlags := 25, nameIndex := 286, descriptorIndex := 25, attributes := #[] }, { accessFlags := 25, nameIndex := 288, descriptorIndex := 25, attributes := #[] }, { accessFlags := 25, nameIndex := 290, descriptorIndex := 25, attributes := #[] }, { accessFlags := 25, nameIndex := 292, descriptorIndex := 25, attributes := #[] }, { accessFlags := 26, nameIndex := 108, descriptorIndex := 109, attributes := #[] }, { accessFlags := 25, nameIndex := 294, descriptorIndex := 25, attributes := #[] }])
  fields := #[{ name := "U", type := (.object "jdk/internal/misc/Unsafe"), accessFlags := 24, slot := 0, constantValue := 0 }, { name := "BIG_ENDIAN", type := .boolean, accessFlags := 26, slot := 1, constantValue := 0 }, { name := "LOG2_ARRAY_BOOLEAN_INDEX_SCALE", type := .int, accessFlags := 25, slot := 2, constantValue := 0 }, { name := "LOG2_ARRAY_BYTE_INDEX_SCALE", type := .int, accessFlags := 25, slot := 3, constantValue := 0 }, { name := "LOG2_ARRAY_CHAR_INDEX_SCALE", type := .int, accessFlags := 25, slot := 4, constantValue := 0 }, { name := "LOG2_ARRAY_SHORT_INDEX_SCALE", type := .int, accessFlags := 25, slot := 5, constantValue := 0 }, { name := "LOG2_ARRAY_INT_INDEX_SCALE", type := .int, accessFlags := 25, slot := 6, constantValue := 0 }, { name := "LOG2_ARRAY_LONG_INDEX_SCALE", type := .int, accessFlags := 25, slot := 7, constantValue := 0 }, { name := "LOG2_ARRAY_FLOAT_INDEX_SCALE", type := .int, accessFlags := 25, slot := 8, constantValue := 0 }, { name := "LOG2_ARRAY_DOUBLE_INDEX_SCALE", type := .int, accessFlags := 25, slot := 9, constantValue := 0 }, { name := "LOG2_BYTE_BIT_SIZE", type := .int, accessFlags := 26, slot := 10, constantValue := 0 }, { name := "T_BOOLEAN", type := .int, accessFlags := 25, slot := 11, constantValue := 0 }, { name := "T_CHAR", type := .int, accessFlags := 25, slot := 12, constantValue := 0 }, { name := "T_FLOAT", type := .int, accessFlags := 25, slot := 13, constantValue := 0 }, { name := "T_DOUBLE", type := .int, accessFlags := 25, slot := 14, constantValue := 0 }, { name := "T_BYTE", type := .int, accessFlags := 25, slot := 15, constantValue := 0 }, { name := "T_SHORT", type := .int, accessFlags := 25, slot := 16, constantValue := 0 }, { name := "T_INT", type := .int, accessFlags := 25, slot := 17, constantValue := 0 }, { name := "T_LONG", type := .int, accessFlags := 25, slot := 18, constantValue := 0 }, { name := "JLA", type := (.object "jdk/internal/access/JavaLangAccess"), accessFlags := 26, slot := 19, constantValue := 0 }, { name := "SOFT_MAX_ARRAY_LENGTH", type := .int, accessFlags := 25, slot := 20, constantValue := 0 }]
  methods := #[k16m0]
  instanceTypes := #[]
  staticTypes := #[(.object "jdk/internal/misc/Unsafe"), .boolean, .int, .int, .int, .int, .int, .int, .int, .int, .int, .int, .int, .int, .int, .int, .int, .int, .int, (.object "jdk/internal/access/JavaLangAccess"), .int]
  resolved := Array.replicate 378 none
  statics := none }

def pool17 : Array CpInfo := pool [(1, u "java/lang/Cloneable"), (0, .class_ 1), (0, u "java/lang/Object"), (0, .class_ 3)] 3

/-- java/lang/Cloneable -/
def k17 : Class := { plain "java/lang/Cloneable" (some 0) with
  accessFlags := 1537
  interfaces := #[]
  cf := some (fileOf pool17 2 #[] #[] 1537 4 #[] #[])
  fields := #[]
  methods := #[]
  instanceTypes := #[]
  staticTypes := #[]
  resolved := Array.replicate 8 none
  statics := none }

/-- the primitive byte -/
def k18 : Class := { plain "byte" none with kind := .primitive 'B', accessFlags := 0x411 }
/-- [B -/
def k19 : Class := { plain "[B" (some 0) with kind := .array 18 .byte, interfaces := #[17, 2], accessFlags := 1041 }

/-- the primitive char -/
def k20 : Class := { plain "char" none with kind := .primitive 'C', accessFlags := 0x411 }
/-- [C -/
def k21 : Class := { plain "[C" (some 0) with kind := .array 20 .char, interfaces := #[17, 2], accessFlags := 1041 }

/-- the primitive int -/
def k22 : Class := { plain "int" none with kind := .primitive 'I', accessFlags := 0x411 }
/-- [I -/
def k23 : Class := { plain "[I" (some 0) with kind := .array 22 .int, interfaces := #[17, 2], accessFlags := 1041 }

def heap : Heap := #[{ cls := 7, slots := #[.long 0, .int 1, .null, .int 0, .null, .int 0, .int 0], vm := .statics 7 },
  { cls := 10, slots := #[.null, .null, .null], vm := .statics 10 }]
def classes : Array Class := #[k0, k1, k2, k3, k4, k5, k6, k7, k8, k9, k10, k11, k12, k13, k14, k15, k16, k17, k18, k19, k20, k21, k22, k23]
def interned : List (Array UInt16 × Addr) := []
def slotsUsed : Nat := 10
def theMethod : MethodId := ⟨1, 4⟩
def args0 : Array Value := #[.int 3, .int 4, .int 5, .int 6, .int 7]
def aboutOver (below : List Frame) : State where
  vm := { classes := classes, interned := interned.toArray }
  heap := heap
  slotsUsed := slotsUsed
  threads := #[{ frames := .invoking theMethod args0 :: below }]
def below0 : List Frame := [.native { method := ⟨0, 0⟩, args := #[] }]
def about1 : State := aboutOver below0
def p0 : Program := .bare "" "" ""
def e0 : Env := launch0.env 0 0 0
theorem w_frames : about1.frames = Frame.invoking theMethod args0 :: below0 := rfl
set_option maxRecDepth 65536 in
theorem w_args : argsFit about1.vm theMethod args0 = true := by decide +kernel
set_option maxRecDepth 65536 in
theorem w_heap : heapFits about1 = true := by decide +kernel
set_option maxRecDepth 65536 in
theorem w_runnable : about1.curStatus? = some .runnable := by decide +kernel
set_option maxRecDepth 65536 in
theorem w_alone : about1.alone = true := by decide +kernel
set_option maxRecDepth 65536 in
theorem w_named : about1.methodNamed? x = some theMethod := by decide +kernel
set_option maxRecDepth 65536 in
theorem w_hears : about1.hears theMethod below0 = true := by decide +kernel
set_option maxRecDepth 65536 in
theorem w_ripe : about1.ripe theMethod args0 below0 = true := by decide +kernel
theorem w_running : about1.status = .running := rfl
set_option maxRecDepth 65536 in
theorem w_room : about1.hasRoom e0.platform room_1 = true :=
  launch0.hasRoom_least _ room_1 (by decide +kernel) (by decide +kernel) (by decide +kernel) (by decide +kernel) (by decide +kernel) (by decide +kernel)
theorem allAtoms_all (ts : List Jvm.Cond) (a : Array Jvm.Value) (st : Jvm.State) : (allAtoms ts).before a st = ts.all (fun c => c.before a st) := by
  induction ts with
  | nil => rfl
  | cons c t ih =>
    show (Jvm.Cond.and c (allAtoms t)).before a st = _
    rw [Jvm.Cond.before_and, ih, List.all_cons]
def words1 : List Jvm.Cond := Jvm.Cond.code x code maxLocals ret :: tables_1
/-- a 'code' word, met by the world's own term for the bytes: nothing is compared byte by byte -/
theorem code_word {y : MethodName} {bytes : ByteArray} {mx : Nat} {rt : Option FieldType} {a : Array Value} {s : State} {m : MethodId} {meth : Method} {c : Code} (h1 : s.methodNamed? y = some m) (h2 : s.vm.method? m = some meth) (h3 : meth.code = some c) (h4 : c.code = bytes)
    (h5 : (c.maxLocals == mx && c.exceptionTable.isEmpty && decide (c.maxStack ≤ mostOperands) && decide (meth.sig.returnType = rt) && !meth.locks && decide (parseMethodDescriptor y.desc = some meth.sig)) = true) : (Jvm.Cond.code y bytes mx rt).before a s = true := by
  simp only [Bool.and_eq_true, beq_iff_eq, Bool.not_eq_true', decide_eq_true_eq] at h5
  obtain ⟨⟨⟨⟨⟨g1, g2⟩, g3⟩, g4⟩, g5⟩, g6⟩ := h5
  simp [Cond.before, Cond.holds, Cond.value, h1, h2, h3, h4, g1, g2, g3, g4, g5, g6]
def isCode : Jvm.Cond → Bool
  | .code _ _ _ _ => true
  | _ => false
theorem all_split {L : List Jvm.Cond} {P : Jvm.Cond → Bool} (h1 : L.all (fun c => isCode c || P c) = true) (h2 : ∀ c ∈ L.filter isCode, P c = true) : L.all P = true := by
  refine List.all_eq_true.mpr fun c hc => ?_
  have h := List.all_eq_true.mp h1 c hc
  rcases Bool.eq_false_or_eq_true (isCode c) with hi | hi
  · exact h2 c (List.mem_filter.mpr ⟨hc, hi⟩)
  · simpa [hi] using h
set_option maxRecDepth 65536 in
theorem w_c0 : (Jvm.Cond.code x code maxLocals ret).before args0 about1 = true := code_word (m := ⟨1, 4⟩) (meth := k1m4) (c := k1c4) (by decide +kernel) rfl rfl rfl (by decide +kernel)
set_option maxRecDepth 65536 in
theorem w_c1 : (Jvm.Cond.code ({ cls := "com/example/brokerward/brokerward/http/RequestHeadTrimPinLaw", name := "draw", desc := "(I)C" } : Jvm.MethodName) method_2_code (2 : Nat) (Option.some Jvm.ClassFile.FieldType.char)).before args0 about1 = true := code_word (m := ⟨1, 1⟩) (meth := k1m1) (c := k1c1) (by decide +kernel) rfl rfl rfl (by decide +kernel)
set_option maxRecDepth 65536 in
theorem w_c2 : (Jvm.Cond.code ({ cls := "com/example/brokerward/brokerward/http/RequestHeadTrimPinLaw", name := "make", desc := "([CI)Ljava/lang/String;" } : Jvm.MethodName) method_4_code (2 : Nat) (Option.some (Jvm.ClassFile.FieldType.object "java/lang/String"))).before args0 about1 = true := code_word (m := ⟨1, 3⟩) (meth := k1m3) (c := k1c3) (by decide +kernel) rfl rfl rfl (by decide +kernel)
set_option maxRecDepth 65536 in
theorem w_c3 : (Jvm.Cond.code ({ cls := "java/lang/String", name := "<init>", desc := "([C)V" } : Jvm.MethodName) jdk_42_method_3_code (2 : Nat) (Option.none : Option Jvm.ClassFile.FieldType)).before args0 about1 = true := code_word (m := ⟨7, 1⟩) (meth := k7m1) (c := k7c1) (by decide +kernel) rfl rfl rfl (by decide +kernel)
set_option maxRecDepth 65536 in
theorem w_c4 : (Jvm.Cond.code ({ cls := "java/lang/String", name := "<init>", desc := "([CIILjava/lang/Void;)V" } : Jvm.MethodName) jdk_42_method_149_code (6 : Nat) (Option.none : Option Jvm.ClassFile.FieldType)).before args0 about1 = true := code_word (m := ⟨7, 5⟩) (meth := k7m5) (c := k7c5) (by decide +kernel) rfl rfl rfl (by decide +kernel)
set_option maxRecDepth 65536 in
theorem w_c5 : (Jvm.Cond.code ({ cls := "java/lang/Object", name := "<init>", desc := "()V" } : Jvm.MethodName) object_method_1_code (1 : Nat) (Option.none : Option Jvm.ClassFile.FieldType)).before args0 about1 = true := code_word (m := ⟨0, 0⟩) (meth := k0m0) (c := k0c0) (by decide +kernel) rfl rfl rfl (by decide +kernel)
set_option maxRecDepth 65536 in
theorem w_c6 : (Jvm.Cond.code ({ cls := "com/example/brokerward/brokerward/http/RequestHeadTrimPinLaw", name := "kept", desc := "([CII)Z" } : Jvm.MethodName) method_3_code (3 : Nat) (Option.some Jvm.ClassFile.FieldType.boolean)).before args0 about1 = true := code_word (m := ⟨1, 2⟩) (meth := k1m2) (c := k1c2) (by decide +kernel) rfl rfl rfl (by decide +kernel)
set_option maxRecDepth 65536 in
theorem w_c7 : (Jvm.Cond.code ({ cls := "com/example/brokerward/brokerward/http/RequestHead", name := "trim", desc := "(Ljava/lang/String;)Ljava/lang/String;" } : Jvm.MethodName) prog_25_method_11_code (3 : Nat) (Option.some (Jvm.ClassFile.FieldType.object "java/lang/String"))).before args0 about1 = true := code_word (m := ⟨9, 0⟩) (meth := k9m0) (c := k9c0) (by decide +kernel) rfl rfl rfl (by decide +kernel)
set_option maxRecDepth 65536 in
theorem w_c8 : (Jvm.Cond.code ({ cls := "java/lang/String", name := "length", desc := "()I" } : Jvm.MethodName) jdk_42_method_54_code (1 : Nat) (Option.some Jvm.ClassFile.FieldType.int)).before args0 about1 = true := code_word (m := ⟨7, 2⟩) (meth := k7m2) (c := k7c2) (by decide +kernel) rfl rfl rfl (by decide +kernel)
set_option maxRecDepth 65536 in
theorem w_c9 : (Jvm.Cond.code ({ cls := "java/lang/String", name := "coder", desc := "()B" } : Jvm.MethodName) jdk_42_method_152_code (1 : Nat) (Option.some Jvm.ClassFile.FieldType.byte)).before args0 about1 = true := code_word (m := ⟨7, 7⟩) (meth := k7m7) (c := k7c7) (by decide +kernel) rfl rfl rfl (by decide +kernel)
set_option maxRecDepth 65536 in
theorem w_c10 : (Jvm.Cond.code ({ cls := "java/lang/String", name := "substring", desc := "(II)Ljava/lang/String;" } : Jvm.MethodName) jdk_42_method_92_code (5 : Nat) (Option.some (Jvm.ClassFile.FieldType.object "java/lang/String"))).before args0 about1 = true := code_word (m := ⟨7, 4⟩) (meth := k7m4) (c := k7c4) (by decide +kernel) rfl rfl rfl (by decide +kernel)
set_option maxRecDepth 65536 in
theorem w_c11 : (Jvm.Cond.code ({ cls := "java/lang/String", name := "checkBoundsBeginEnd", desc := "(III)V" } : Jvm.MethodName) jdk_42_method_158_code (3 : Nat) (Option.none : Option Jvm.ClassFile.FieldType)).before args0 about1 = true := code_word (m := ⟨7, 10⟩) (meth := k7m10) (c := k7c10) (by decide +kernel) rfl rfl rfl (by decide +kernel)
set_option maxRecDepth 65536 in
theorem w_c12 : (Jvm.Cond.code ({ cls := "jdk/internal/util/Preconditions", name := "checkFromToIndex", desc := "(IIILjava/util/function/BiFunction;)I" } : Jvm.MethodName) jdk_41_method_12_code (4 : Nat) (Option.some Jvm.ClassFile.FieldType.int)).before args0 about1 = true := code_word (m := ⟨10, 2⟩) (meth := k10m2) (c := k10c2) (by decide +kernel) rfl rfl rfl (by decide +kernel)
set_option maxRecDepth 65536 in
theorem w_c13 : (Jvm.Cond.code ({ cls := "java/lang/StringUTF16", name := "compress", desc := "([CII)[B" } : Jvm.MethodName) jdk_52_method_16_code (6 : Nat) (Option.some (Jvm.ClassFile.FieldType.array Jvm.ClassFile.FieldType.byte))).before args0 about1 = true := code_word (m := ⟨11, 2⟩) (meth := k11m2) (c := k11c2) (by decide +kernel) rfl rfl rfl (by decide +kernel)
set_option maxRecDepth 65536 in
theorem w_c14 : (Jvm.Cond.code ({ cls := "java/lang/StringUTF16", name := "compress", desc := "([CI[BII)I" } : Jvm.MethodName) jdk_52_method_21_code (7 : Nat) (Option.some Jvm.ClassFile.FieldType.int)).before args0 about1 = true := code_word (m := ⟨11, 3⟩) (meth := k11m3) (c := k11c3) (by decide +kernel) rfl rfl rfl (by decide +kernel)
set_option maxRecDepth 65536 in
theorem w_c15 : (Jvm.Cond.code ({ cls := "java/lang/StringUTF16", name := "coderFromArrayLen", desc := "([BI)B" } : Jvm.MethodName) jdk_52_method_15_code (2 : Nat) (Option.some Jvm.ClassFile.FieldType.byte)).before args0 about1 = true := code_word (m := ⟨11, 1⟩) (meth := k11m1) (c := k11c1) (by decide +kernel) rfl rfl rfl (by decide +kernel)
set_option maxRecDepth 65536 in
theorem w_c16 : (Jvm.Cond.code ({ cls := "java/lang/String", name := "charAt", desc := "(I)C" } : Jvm.MethodName) jdk_42_method_56_code (2 : Nat) (Option.some Jvm.ClassFile.FieldType.char)).before args0 about1 = true := code_word (m := ⟨7, 3⟩) (meth := k7m3) (c := k7c3) (by decide +kernel) rfl rfl rfl (by decide +kernel)
set_option maxRecDepth 65536 in
theorem w_c17 : (Jvm.Cond.code ({ cls := "java/lang/String", name := "isLatin1", desc := "()Z" } : Jvm.MethodName) jdk_42_method_154_code (1 : Nat) (Option.some Jvm.ClassFile.FieldType.boolean)).before args0 about1 = true := code_word (m := ⟨7, 8⟩) (meth := k7m8) (c := k7c8) (by decide +kernel) rfl rfl rfl (by decide +kernel)
set_option maxRecDepth 65536 in
theorem w_c18 : (Jvm.Cond.code ({ cls := "java/lang/StringLatin1", name := "charAt", desc := "([BI)C" } : Jvm.MethodName) jdk_43_method_2_code (2 : Nat) (Option.some Jvm.ClassFile.FieldType.char)).before args0 about1 = true := code_word (m := ⟨12, 1⟩) (meth := k12m1) (c := k12c1) (by decide +kernel) rfl rfl rfl (by decide +kernel)
set_option maxRecDepth 65536 in
theorem w_c19 : (Jvm.Cond.code ({ cls := "java/lang/String", name := "checkIndex", desc := "(II)V" } : Jvm.MethodName) jdk_42_method_155_code (2 : Nat) (Option.none : Option Jvm.ClassFile.FieldType)).before args0 about1 = true := code_word (m := ⟨7, 9⟩) (meth := k7m9) (c := k7c9) (by decide +kernel) rfl rfl rfl (by decide +kernel)
set_option maxRecDepth 65536 in
theorem w_c20 : (Jvm.Cond.code ({ cls := "jdk/internal/util/Preconditions", name := "checkIndex", desc := "(IILjava/util/function/BiFunction;)I" } : Jvm.MethodName) jdk_41_method_11_code (3 : Nat) (Option.some Jvm.ClassFile.FieldType.int)).before args0 about1 = true := code_word (m := ⟨10, 1⟩) (meth := k10m1) (c := k10c1) (by decide +kernel) rfl rfl rfl (by decide +kernel)
set_option maxRecDepth 65536 in
theorem w_c21 : (Jvm.Cond.code ({ cls := "com/example/brokerward/brokerward/http/RequestHead", name := "isBlank", desc := "(C)Z" } : Jvm.MethodName) prog_25_method_18_code (1 : Nat) (Option.some Jvm.ClassFile.FieldType.boolean)).before args0 about1 = true := code_word (m := ⟨9, 1⟩) (meth := k9m1) (c := k9c1) (by decide +kernel) rfl rfl rfl (by decide +kernel)
set_option maxRecDepth 65536 in
theorem w_c22 : (Jvm.Cond.code ({ cls := "java/lang/StringLatin1", name := "newString", desc := "([BII)Ljava/lang/String;" } : Jvm.MethodName) jdk_43_method_47_code (3 : Nat) (Option.some (Jvm.ClassFile.FieldType.object "java/lang/String"))).before args0 about1 = true := code_word (m := ⟨12, 2⟩) (meth := k12m2) (c := k12c2) (by decide +kernel) rfl rfl rfl (by decide +kernel)
set_option maxRecDepth 65536 in
theorem w_c23 : (Jvm.Cond.code ({ cls := "java/util/Arrays", name := "copyOfRange", desc := "([BII)[B" } : Jvm.MethodName) jdk_65_method_132_code (3 : Nat) (Option.some (Jvm.ClassFile.FieldType.array Jvm.ClassFile.FieldType.byte))).before args0 about1 = true := code_word (m := ⟨13, 2⟩) (meth := k13m2) (c := k13c2) (by decide +kernel) rfl rfl rfl (by decide +kernel)
set_option maxRecDepth 65536 in
theorem w_c24 : (Jvm.Cond.code ({ cls := "java/util/Arrays", name := "copyOfRangeByte", desc := "([BII)[B" } : Jvm.MethodName) jdk_65_method_133_code (5 : Nat) (Option.some (Jvm.ClassFile.FieldType.array Jvm.ClassFile.FieldType.byte))).before args0 about1 = true := code_word (m := ⟨13, 3⟩) (meth := k13m3) (c := k13c3) (by decide +kernel) rfl rfl rfl (by decide +kernel)
set_option maxRecDepth 65536 in
theorem w_c25 : (Jvm.Cond.code ({ cls := "java/util/Arrays", name := "checkLength", desc := "(II)V" } : Jvm.MethodName) jdk_65_method_131_code (2 : Nat) (Option.none : Option Jvm.ClassFile.FieldType)).before args0 about1 = true := code_word (m := ⟨13, 1⟩) (meth := k13m1) (c := k13c1) (by decide +kernel) rfl rfl rfl (by decide +kernel)
set_option maxRecDepth 65536 in
theorem w_c26 : (Jvm.Cond.code ({ cls := "java/lang/Math", name := "min", desc := "(II)I" } : Jvm.MethodName) jdk_29_method_69_code (2 : Nat) (Option.some Jvm.ClassFile.FieldType.int)).before args0 about1 = true := code_word (m := ⟨14, 1⟩) (meth := k14m1) (c := k14c1) (by decide +kernel) rfl rfl rfl (by decide +kernel)
set_option maxRecDepth 65536 in
theorem w_c27 : (Jvm.Cond.code ({ cls := "java/lang/String", name := "<init>", desc := "([BB)V" } : Jvm.MethodName) jdk_42_method_151_code (3 : Nat) (Option.none : Option Jvm.ClassFile.FieldType)).before args0 about1 = true := code_word (m := ⟨7, 6⟩) (meth := k7m6) (c := k7c6) (by decide +kernel) rfl rfl rfl (by decide +kernel)
def codes1 : List Jvm.Cond := [Jvm.Cond.code x code maxLocals ret, Jvm.Cond.code ({ cls := "com/example/brokerward/brokerward/http/RequestHeadTrimPinLaw", name := "draw", desc := "(I)C" } : Jvm.MethodName) method_2_code (2 : Nat) (Option.some Jvm.ClassFile.FieldType.char), Jvm.Cond.code ({ cls := "com/example/brokerward/brokerward/http/RequestHeadTrimPinLaw", name := "make", desc := "([CI)Ljava/lang/String;" } : Jvm.MethodName) method_4_code (2 : Nat) (Option.some (Jvm.ClassFile.FieldType.object "java/lang/String")), Jvm.Cond.code ({ cls := "java/lang/String", name := "<init>", desc := "([C)V" } : Jvm.MethodName) jdk_42_method_3_code (2 : Nat) (Option.none : Option Jvm.ClassFile.FieldType), Jvm.Cond.code ({ cls := "java/lang/String", name := "<init>", desc := "([CIILjava/lang/Void;)V" } : Jvm.MethodName) jdk_42_method_149_code (6 : Nat) (Option.none : Option Jvm.ClassFile.FieldType), Jvm.Cond.code ({ cls := "java/lang/Object", name := "<init>", desc := "()V" } : Jvm.MethodName) object_method_1_code (1 : Nat) (Option.none : Option Jvm.ClassFile.FieldType), Jvm.Cond.code ({ cls := "com/example/brokerward/brokerward/http/RequestHeadTrimPinLaw", name := "kept", desc := "([CII)Z" } : Jvm.MethodName) method_3_code (3 : Nat) (Option.some Jvm.ClassFile.FieldType.boolean), Jvm.Cond.code ({ cls := "com/example/brokerward/brokerward/http/RequestHead", name := "trim", desc := "(Ljava/lang/String;)Ljava/lang/String;" } : Jvm.MethodName) prog_25_method_11_code (3 : Nat) (Option.some (Jvm.ClassFile.FieldType.object "java/lang/String")), Jvm.Cond.code ({ cls := "java/lang/String", name := "length", desc := "()I" } : Jvm.MethodName) jdk_42_method_54_code (1 : Nat) (Option.some Jvm.ClassFile.FieldType.int), Jvm.Cond.code ({ cls := "java/lang/String", name := "coder", desc := "()B" } : Jvm.MethodName) jdk_42_method_152_code (1 : Nat) (Option.some Jvm.ClassFile.FieldType.byte), Jvm.Cond.code ({ cls := "java/lang/String", name := "substring", desc := "(II)Ljava/lang/String;" } : Jvm.MethodName) jdk_42_method_92_code (5 : Nat) (Option.some (Jvm.ClassFile.FieldType.object "java/lang/String")), Jvm.Cond.code ({ cls := "java/lang/String", name := "checkBoundsBeginEnd", desc := "(III)V" } : Jvm.MethodName) jdk_42_method_158_code (3 : Nat) (Option.none : Option Jvm.ClassFile.FieldType), Jvm.Cond.code ({ cls := "jdk/internal/util/Preconditions", name := "checkFromToIndex", desc := "(IIILjava/util/function/BiFunction;)I" } : Jvm.MethodName) jdk_41_method_12_code (4 : Nat) (Option.some Jvm.ClassFile.FieldType.int), Jvm.Cond.code ({ cls := "java/lang/StringUTF16", name := "compress", desc := "([CII)[B" } : Jvm.MethodName) jdk_52_method_16_code (6 : Nat) (Option.some (Jvm.ClassFile.FieldType.array Jvm.ClassFile.FieldType.byte)), Jvm.Cond.code ({ cls := "java/lang/StringUTF16", name := "compress", desc := "([CI[BII)I" } : Jvm.MethodName) jdk_52_method_21_code (7 : Nat) (Option.some Jvm.ClassFile.FieldType.int), Jvm.Cond.code ({ cls := "java/lang/StringUTF16", name := "coderFromArrayLen", desc := "([BI)B" } : Jvm.MethodName) jdk_52_method_15_code (2 : Nat) (Option.some Jvm.ClassFile.FieldType.byte), Jvm.Cond.code ({ cls := "java/lang/String", name := "charAt", desc := "(I)C" } : Jvm.MethodName) jdk_42_method_56_code (2 : Nat) (Option.some Jvm.ClassFile.FieldType.char), Jvm.Cond.code ({ cls := "java/lang/String", name := "isLatin1", desc := "()Z" } : Jvm.MethodName) jdk_42_method_154_code (1 : Nat) (Option.some Jvm.ClassFile.FieldType.boolean), Jvm.Cond.code ({ cls := "java/lang/StringLatin1", name := "charAt", desc := "([BI)C" } : Jvm.MethodName) jdk_43_method_2_code (2 : Nat) (Option.some Jvm.ClassFile.FieldType.char), Jvm.Cond.code ({ cls := "java/lang/String", name := "checkIndex", desc := "(II)V" } : Jvm.MethodName) jdk_42_method_155_code (2 : Nat) (Option.none : Option Jvm.ClassFile.FieldType), Jvm.Cond.code ({ cls := "jdk/internal/util/Preconditions", name := "checkIndex", desc := "(IILjava/util/function/BiFunction;)I" } : Jvm.MethodName) jdk_41_method_11_code (3 : Nat) (Option.some Jvm.ClassFile.FieldType.int), Jvm.Cond.code ({ cls := "com/example/brokerward/brokerward/http/RequestHead", name := "isBlank", desc := "(C)Z" } : Jvm.MethodName) prog_25_method_18_code (1 : Nat) (Option.some Jvm.ClassFile.FieldType.boolean), Jvm.Cond.code ({ cls := "java/lang/StringLatin1", name := "newString", desc := "([BII)Ljava/lang/String;" } : Jvm.MethodName) jdk_43_method_47_code (3 : Nat) (Option.some (Jvm.ClassFile.FieldType.object "java/lang/String")), Jvm.Cond.code ({ cls := "java/util/Arrays", name := "copyOfRange", desc := "([BII)[B" } : Jvm.MethodName) jdk_65_method_132_code (3 : Nat) (Option.some (Jvm.ClassFile.FieldType.array Jvm.ClassFile.FieldType.byte)), Jvm.Cond.code ({ cls := "java/util/Arrays", name := "copyOfRangeByte", desc := "([BII)[B" } : Jvm.MethodName) jdk_65_method_133_code (5 : Nat) (Option.some (Jvm.ClassFile.FieldType.array Jvm.ClassFile.FieldType.byte)), Jvm.Cond.code ({ cls := "java/util/Arrays", name := "checkLength", desc := "(II)V" } : Jvm.MethodName) jdk_65_method_131_code (2 : Nat) (Option.none : Option Jvm.ClassFile.FieldType), Jvm.Cond.code ({ cls := "java/lang/Math", name := "min", desc := "(II)I" } : Jvm.MethodName) jdk_29_method_69_code (2 : Nat) (Option.some Jvm.ClassFile.FieldType.int), Jvm.Cond.code ({ cls := "java/lang/String", name := "<init>", desc := "([BB)V" } : Jvm.MethodName) jdk_42_method_151_code (3 : Nat) (Option.none : Option Jvm.ClassFile.FieldType)]
set_option maxRecDepth 65536 in
theorem codes_eq : words1.filter isCode = codes1 := rfl
theorem w_codes : ∀ c ∈ words1.filter isCode, c.before args0 about1 = true := by
  rw [codes_eq]
  intro c hc
  simp only [codes1, List.mem_cons, List.not_mem_nil, or_false] at hc
  rcases hc with rfl | rfl | rfl | rfl | rfl | rfl | rfl | rfl | rfl | rfl | rfl | rfl | rfl | rfl | rfl | rfl | rfl | rfl | rfl | rfl | rfl | rfl | rfl | rfl | rfl | rfl | rfl | rfl
  · exact w_c0
  · exact w_c1
  · exact w_c2
  · exact w_c3
  · exact w_c4
  · exact w_c5
  · exact w_c6
  · exact w_c7
  · exact w_c8
  · exact w_c9
  · exact w_c10
  · exact w_c11
  · exact w_c12
  · exact w_c13
  · exact w_c14
  · exact w_c15
  · exact w_c16
  · exact w_c17
  · exact w_c18
  · exact w_c19
  · exact w_c20
  · exact w_c21
  · exact w_c22
  · exact w_c23
  · exact w_c24
  · exact w_c25
  · exact w_c26
  · exact w_c27
set_option maxRecDepth 65536 in
theorem w_t1 : (words1.take 24).all (fun c => isCode c || c.before args0 about1) = true := by decide +kernel
set_option maxRecDepth 65536 in
theorem w_t2 : ((words1.drop 24).take 24).all (fun c => isCode c || c.before args0 about1) = true := by decide +kernel
set_option maxRecDepth 65536 in
theorem w_t3 : (((words1.drop 24).drop 24).take 24).all (fun c => isCode c || c.before args0 about1) = true := by decide +kernel
set_option maxRecDepth 65536 in
theorem w_t4 : ((((words1.drop 24).drop 24).drop 24).take 24).all (fun c => isCode c || c.before args0 about1) = true := by decide +kernel
set_option maxRecDepth 65536 in
theorem w_t5 : (((((words1.drop 24).drop 24).drop 24).drop 24).take 24).all (fun c => isCode c || c.before args0 about1) = true := by decide +kernel
set_option maxRecDepth 65536 in
theorem w_t6 : (((((words1.drop 24).drop 24).drop 24).drop 24).drop 24).all (fun c => isCode c || c.before args0 about1) = true := by decide +kernel
theorem w_tables : (allAtoms (Jvm.Cond.code x code maxLocals ret :: tables_1)).before args0 about1 = true := by
  rw [allAtoms_all]
  show words1.all (fun c => c.before args0 about1) = true
  refine all_split ?_ w_codes
  rw [← List.take_append_drop 24 words1, List.all_append, w_t1, ← List.take_append_drop 24 (words1.drop 24), List.all_append, w_t2, ← List.take_append_drop 24 ((words1.drop 24).drop 24), List.all_append, w_t3, ← List.take_append_drop 24 (((words1.drop 24).drop 24).drop 24), List.all_append, w_t4, ← List.take_append_drop 24 ((((words1.drop 24).drop 24).drop 24).drop 24), List.all_append, w_t5, w_t6]
  rfl
set_option maxRecDepth 65536 in
theorem w_rest : rest_1_c.before args0 about1 = true := by decide +kernel
set_option maxRecDepth 65536 in
theorem w_case : (Jvm.Cond.and given_1 narrow_1).before args0 about1 = true := by decide +kernel
set_option maxRecDepth 65536 in
theorem w_consts : constsHeld consts_1 about1 := Jvm.Lit.constsHeldB_iff.mp (by decide +kernel)
theorem w_applies : (headSpec (Jvm.Cond.code x code maxLocals ret :: tables_1) room_1).applies x e0.platform about1 = true :=
  (Spec.applies_iff w_frames).mpr ⟨w_running, w_runnable, w_alone, w_named, w_hears, w_ripe, w_room, w_tables⟩
theorem atStart : AtStart classFile x code maxLocals ret World_1 tables_1 room_1 Calls_1 rest_1 Pre_1 launch0 p0 e0 about1 theMethod args0 below0 :=
  ⟨lists_1, trivial, launch0.admits_env _ _ _, launch0.least_env, fairChoices_fair.cas, fairChoices_fair.clock, w_frames, w_args, w_heap, w_applies, ⟨w_consts, trivial⟩, w_rest, w_case⟩
end start1
theorem witness_1 : WitnessClaimed_1 := ⟨start1.p0, start1.e0, start1.about1, start1.theMethod, start1.args0, start1.below0, start1.atStart⟩
end Jvm.Pilot.@@N@@
