import JvmDerived
import JvmDerived.Pilot.@@N@@Statement
import JvmDerived.Pilot.@@N@@Code
set_option linter.unusedVariables false
set_option linter.unusedSimpArgs false
namespace Jvm.RoadKit
open Sem ClassFile Op Lib Jvm.Stand Jvm.Free Jvm.LawKit
section New
variable {p : Program} {l : Launch} {e : Env} {R : Room} {s : State} {m : MethodId} {args : Array Value} {below : List Frame} {meth : Method} {c : Code} {T : State} {locs : List Loc} {cells slots : Nat}
theorem retI (X : Stand p l e R s m args below meth c T locs cells slots) (hx : p.tables.exec = Jvm.exec) {pc : Nat} {Ls : Array Slot} {z : Int32} {rest : List Value} (hret : meth.sig.returnType = some .int) (hd : decode c.code pc = .ok (.ireturn, 1)) {fs : List Frame}
    (hl : ∀ (f : JFrame) (acts : List Action), f.method = m → f.locked = none → f.entered = [] → (doReturn e (T.setTop f) acts (some (.int z))).1 = T.setFrames fs) : Steps p.tables e below (T.setTop (mkF m pc Ls (.int z :: rest))) (T.setFrames fs) := by
  have hm' : T.vm.method? m = some meth := X.method'
  have hn : narrow .int (.int z) = .int z := rfl
  show Steps p.tables e below (T.setTop { method := m, pc := pc, locals := Ls, stack := _ :: rest, locked := none }) _
  jvm_step X.here [X.here.top, hx, hd, hm', hret, hn]
  first | (intro acts; rw [hl _ acts rfl rfl rfl]) | rw [hl _ _ rfl rfl rfl]
  exact Steps.refl _
end New
end Jvm.RoadKit
/- laws to paste: Road.backV, Road.eqW, Road.codOf (cut by pick.py; bodies as the Statement names them) -/
namespace Jvm.Pilot.@@N@@
namespace StrChars
open Jvm Sem ClassFile Op Lib Jvm.Stand Jvm.Free.XT Jvm.Free.ALB Jvm.Free.JM Jvm.Free
open Jvm.Lib.Cold (StaticIs)
/-- a char array whose places are chars -/
def Ch (a : Addr) (A : Cell) (U : State) : Prop := Arr .char a A U ∧ Typed .char A
theorem Ch.mv {a : Addr} {A : Cell} {U U' : State} (h : Ch a A U) (hal : U.vm.Alike U'.vm) (hh : U'.heap = U.heap) : Ch a A U' := ⟨h.1.mv hal hh, h.2⟩
theorem Ch.keep {a : Addr} {A : Cell} {U U' : State} (h : Ch a A U) (hal : U.vm.Alike U'.vm) (hk : U'.heap[a]? = some A) : Ch a A U' := ⟨h.1.keep hal hk, h.2⟩
/-- what place i of a char[]'s cell holds -/
def cv (A : Cell) (i : Nat) : Int32 := match A.slots[i]? with | some (.int x) => x | _ => 0
theorem Ch.get {a : Addr} {A : Cell} {U : State} (h : Ch a A U) {i : Nat} (hi : i < A.slots.size) : A.slots[i]? = some (.int (cv A i)) := by
  have e := Array.getElem?_eq_getElem hi
  have f := h.2 i _ e
  unfold cv; rw [e]
  generalize A.slots[i] = v at f
  cases v <;> simp [fits] at f ⊢
/-- the byte that i2b leaves of a char -/
def lo8 (x : Int32) : Int32 := x.toInt8.toInt32
theorem fits_lo8 (y : Int32) : fits .byte (.int (lo8 y)) = true := by
  have h1 := y.toInt8.le_toInt
  have h2 := y.toInt8.toInt_lt
  simp only [lo8, fits, Bool.and_eq_true, decide_eq_true_eq, Int32.le_iff_toInt_le, Int8.toInt_toInt32, show (-128 : Int32).toInt = -128 from by decide, show (127 : Int32).toInt = 127 from by decide]
  omega
/-- A' is A but that each place j of lo .. hi - 1 holds f j -/
def Laid (A A' : Cell) (lo hi : Nat) (f : Nat → Value) : Prop := A'.cls = A.cls ∧ A'.vm = A.vm ∧ A'.slots.size = A.slots.size ∧ ∀ i, A'.slots[i]? = if lo ≤ i ∧ i < hi then some (f i) else A.slots[i]?
theorem Laid.zero (A : Cell) (lo : Nat) (f : Nat → Value) : Laid A A lo (lo + 0) f := ⟨rfl, rfl, rfl, fun i => by rw [if_neg (by omega)]⟩
theorem Laid.step {A Ak : Cell} {lo k : Nat} {f : Nat → Value} {v : Value} (h : Laid A Ak lo k f) (hlo : lo ≤ k) (hk : k < Ak.slots.size) (hv : v = f k) : Laid A (Ak.setSlot k v) lo (k + 1) f := by
  refine ⟨h.1, h.2.1, by simpa [Cell.setSlot] using h.2.2.1, fun i => ?_⟩
  by_cases e : k = i
  · subst e; rw [Cell.slots_setSlot_self v hk, if_pos (by omega), hv]
  · rw [Cell.slots_setSlot_ne v e, h.2.2.2 i]
    by_cases q : lo ≤ i ∧ i < k
    · rw [if_pos q, if_pos (by omega)]
    · rw [if_neg q, if_neg (by omega)]
def U16 : String := "java/lang/StringUTF16"
namespace Cmp5
def yN : MethodName := ⟨"java/lang/StringUTF16", "compress", "([CI[BII)I"⟩
abbrev yB : ByteArray := jdk_52_method_21_code
theorem d0 : decode yB 0 = .ok (.iconst 0, 1) := by decide +kernel
theorem d1 : decode yB 1 = .ok (.istore 5, 2) := by decide +kernel
theorem d3 : decode yB 3 = .ok (.iload 5, 2) := by decide +kernel
theorem d5 : decode yB 5 = .ok (.iload 4, 2) := by decide +kernel
theorem d7 : decode yB 7 = .ok (.if_icmp (.ge) 37, 3) := by decide +kernel
theorem d10 : decode yB 10 = .ok (.aload_n 0, 1) := by decide +kernel
theorem d11 : decode yB 11 = .ok (.iload_n 1, 1) := by decide +kernel
theorem d12 : decode yB 12 = .ok (.caload, 1) := by decide +kernel
theorem d13 : decode yB 13 = .ok (.istore 6, 2) := by decide +kernel
theorem d15 : decode yB 15 = .ok (.iload 6, 2) := by decide +kernel
theorem d17 : decode yB 17 = .ok (.sipush 255, 3) := by decide +kernel
theorem d20 : decode yB 20 = .ok (.if_icmp (.le) 6, 3) := by decide +kernel
theorem d26 : decode yB 26 = .ok (.aload_n 2, 1) := by decide +kernel
theorem d27 : decode yB 27 = .ok (.iload_n 3, 1) := by decide +kernel
theorem d28 : decode yB 28 = .ok (.iload 6, 2) := by decide +kernel
theorem d30 : decode yB 30 = .ok (.i2b, 1) := by decide +kernel
theorem d31 : decode yB 31 = .ok (.bastore, 1) := by decide +kernel
theorem d32 : decode yB 32 = .ok (.iinc 1 1, 3) := by decide +kernel
theorem d35 : decode yB 35 = .ok (.iinc 3 1, 3) := by decide +kernel
theorem d38 : decode yB 38 = .ok (.iinc 5 1, 3) := by decide +kernel
theorem d41 : decode yB 41 = .ok (.goto (-38), 3) := by decide +kernel
theorem d44 : decode yB 44 = .ok (.iload 4, 2) := by decide +kernel
theorem d46 : decode yB 46 = .ok (.ireturn, 1) := by decide +kernel
def site : List Cond := []
def tab : Cond := tabOf yN yB 7 (some .int) site
def P (b : Addr) (A : Cell) (d : Addr) (B : Cell) (o q len : Nat) (args : Array Value) (s : State) : Prop := args = #[.ref b, .int (Int32.ofNat o), .ref d, .int (Int32.ofNat q), .int (Int32.ofNat len)] ∧ Ch b A s ∧ Arr .byte d B s ∧ b ≠ d ∧ o + len ≤ A.slots.size ∧ q + len ≤ B.slots.size ∧ ∀ i, i < len → ¬ 255 < cv A (o + i)
def E (b : Addr) (A : Cell) (d : Addr) (B : Cell) (o q len : Nat) (r : Option Value) (s u : State) : Prop := r = some (.int (Int32.ofNat len)) ∧ ∃ B', Put d B' s u ∧ Laid B B' q (q + len) (fun j => Value.int (lo8 (cv A (o + (j - q)))))
/-- no char of the range above 255: len; the places written hold each char's low byte -/
theorem law (l : Launch) (b : Addr) (A : Cell) (d : Addr) (B : Cell) (o q len : Nat) : Law l yN 5 5 0 0 yB 7 (some .int) site (P b A d B o q len) (E b A d B o q len) (copyLocs d q len) 0 0 := by
  refine Law.of_walk (plainFor_of_name (by decide +kernel)) (by decide +kernel) (by decide +kernel) (by decide) (fun _ _ h => by rw [h.1]; rfl) (fun _ U U' hal hh h => ⟨h.1, h.2.1.mv hal hh, h.2.2.1.mv hal hh, h.2.2.2⟩) (fun r U U' V V' h1 hal h2 h => ⟨h.1, h.2.elim fun B' q => ⟨B', q.1.mv h1 h2, q.2⟩⟩) ?_
  intro p e s m args below meth c s₁ X0 hexec hbytes hml hret hlk hnm hown hh0 W hP
  obtain ⟨rfl, hA, hB, hne, l1, l2, hp⟩ := hP
  have c1 : Steps p.tables e below (s₁.setTop (entryFrame m #[.ref b, .int (Int32.ofNat o), .ref d, .int (Int32.ofNat q), .int (Int32.ofNat len)] 7)) (s₁.setTop (mkF m 0 #[.val (.ref b), .val (.int (Int32.ofNat o)), .val (.ref d), .val (.int (Int32.ofNat q)), .val (.int (Int32.ofNat len)), .unset, .unset] [])) := entry rfl
  have hA0 := hA.1.mv X0.warmed.alike hh0
  have hB0 := hB.mv X0.warmed.alike hh0
  have a31 := hA.1.2.2.2
  have c2 : Steps p.tables e below (s₁.setTop (entryFrame m #[.ref b, .int (Int32.ofNat o), .ref d, .int (Int32.ofNat q), .int (Int32.ofNat len)] 7)) (s₁.setTop (mkF m 3 #[.val (.ref b), .val (.int (Int32.ofNat o)), .val (.ref d), .val (.int (Int32.ofNat q)), .val (.int (Int32.ofNat len)), .val (.int 0), .unset] [])) := c1.trans (by
    refine iconstV X0.here hexec rfl 0 (hb hbytes d0) (by decide) ?_
    refine XS.istore X0.here hexec rfl (hb hbytes d1) rfl rfl ?_
    exact Steps.refl _)
  have loop : ∀ (r i : Nat), i + r = len → ∀ (z : Slot), (z = .unset ∨ ∃ w, z = .val w ∧ w.category = 1) → ∀ (Tl : State) (Bk : Cell), Stand p l e { frames := 0, locals := 0, cells := 0, slots := 0 } s m #[.ref b, .int (Int32.ofNat o), .ref d, .int (Int32.ofNat q), .int (Int32.ofNat len)] below meth c Tl ([] ++ copyLocs d q i) 0 0 → Put d Bk s₁ Tl → Laid B Bk q (q + i) (fun j => Value.int (lo8 (cv A (o + (j - q))))) →
      Steps p.tables e below (s₁.setTop (entryFrame m #[.ref b, .int (Int32.ofNat o), .ref d, .int (Int32.ofNat q), .int (Int32.ofNat len)] 7)) (Tl.setTop (mkF m 3 #[.val (.ref b), .val (.int (Int32.ofNat (o + i))), .val (.ref d), .val (.int (Int32.ofNat (q + i))), .val (.int (Int32.ofNat len)), .val (.int (Int32.ofNat i)), z] [])) → ∃ (T' : State) (B' : Cell) (z' : Slot), Stand p l e { frames := 0, locals := 0, cells := 0, slots := 0 } s m #[.ref b, .int (Int32.ofNat o), .ref d, .int (Int32.ofNat q), .int (Int32.ofNat len)] below meth c T' ([] ++ copyLocs d q len) 0 0 ∧ Put d B' s₁ T' ∧ Laid B B' q (q + len) (fun j => Value.int (lo8 (cv A (o + (j - q))))) ∧
      Steps p.tables e below (s₁.setTop (entryFrame m #[.ref b, .int (Int32.ofNat o), .ref d, .int (Int32.ofNat q), .int (Int32.ofNat len)] 7)) (T'.setTop (mkF m 3 #[.val (.ref b), .val (.int (Int32.ofNat (o + len))), .val (.ref d), .val (.int (Int32.ofNat (q + len))), .val (.int (Int32.ofNat len)), .val (.int (Int32.ofNat len)), z'] [])) := by
    intro r
    induction r with
    | zero =>
      intro i hi z hz Tl Bk Xl pl fl cl
      have hil : i = len := by omega
      rw [hil] at Xl fl cl
      exact ⟨Tl, Bk, z, Xl, pl, fl, cl⟩
    | succ r ih =>
      intro i hi z hz Tl Bk Xl pl fl cl
      have all := X0.warmed.alike.symm.trans Xl.warmed.alike
      have hAl := hA0.keep all (pl.other hne hA0.1)
      have hBk := hB0.like all pl.1 fl.1 fl.2.1 fl.2.2.1
      have hlt : q + i < Bk.slots.size := by rw [fl.2.2.1]; omega
      have c3 : Steps p.tables e below (s₁.setTop (entryFrame m #[.ref b, .int (Int32.ofNat o), .ref d, .int (Int32.ofNat q), .int (Int32.ofNat len)] 7)) (Tl.setTop (mkF m 12 #[.val (.ref b), .val (.int (Int32.ofNat (o + i))), .val (.ref d), .val (.int (Int32.ofNat (q + i))), .val (.int (Int32.ofNat len)), .val (.int (Int32.ofNat i)), z] [.int (Int32.ofNat (o + i)), .ref b])) := cl.trans (by
        refine XS.iload Xl.here hexec rfl (hb hbytes d3) rfl ?_
        refine XS.iload Xl.here hexec rfl (hb hbytes d5) rfl ?_
        refine XS.icmpNo Xl.here hexec rfl (hb hbytes d7) rfl (ii_ge_f (lt32 (by omega) (by omega))) ?_
        refine XS.aloadN Xl.here hexec rfl (hb hbytes d10) rfl rfl ?_
        refine XS.iloadN Xl.here hexec rfl (hb hbytes d11) rfl ?_
        exact Steps.refl _)
      have c4 : Steps p.tables e below (s₁.setTop (entryFrame m #[.ref b, .int (Int32.ofNat o), .ref d, .int (Int32.ofNat q), .int (Int32.ofNat len)] 7)) (Tl.setTop (mkF m 13 #[.val (.ref b), .val (.int (Int32.ofNat (o + i))), .val (.ref d), .val (.int (Int32.ofNat (q + i))), .val (.int (Int32.ofNat len)), .val (.int (Int32.ofNat i)), z] [.int (cv A (o + i))])) := c3.trans (by
        refine Xl.aget hexec hAl rfl (hA.get (i := o + i) (by omega)) rfl rfl (hb hbytes d12) ?_
        exact Steps.refl _)
      have c5 : Steps p.tables e below (s₁.setTop (entryFrame m #[.ref b, .int (Int32.ofNat o), .ref d, .int (Int32.ofNat q), .int (Int32.ofNat len)] 7)) (Tl.setTop (mkF m 15 #[.val (.ref b), .val (.int (Int32.ofNat (o + i))), .val (.ref d), .val (.int (Int32.ofNat (q + i))), .val (.int (Int32.ofNat len)), .val (.int (Int32.ofNat i)), .val (.int (cv A (o + i)))] [])) := c4.trans (by
        refine XS.istoreS Xl.here hexec rfl (hb hbytes d13) rfl rfl hz ?_
        exact Steps.refl _)
      have c6 : Steps p.tables e below (s₁.setTop (entryFrame m #[.ref b, .int (Int32.ofNat o), .ref d, .int (Int32.ofNat q), .int (Int32.ofNat len)] 7)) (Tl.setTop (mkF m 31 #[.val (.ref b), .val (.int (Int32.ofNat (o + i))), .val (.ref d), .val (.int (Int32.ofNat (q + i))), .val (.int (Int32.ofNat len)), .val (.int (Int32.ofNat i)), .val (.int (cv A (o + i)))] [.int (lo8 (cv A (o + i))), .int (Int32.ofNat (q + i)), .ref d])) := c5.trans (by
        refine XS.iload Xl.here hexec rfl (hb hbytes d15) rfl ?_
        refine sipushV Xl.here hexec rfl 255 (hb hbytes d17) (by decide) ?_
        refine XS.icmpYes Xl.here hexec rfl (pc0 := 20) rfl (hb hbytes d20) rfl (ii_le_t (hp i (by omega))) (by decide) rfl ?_
        refine XS.aloadN Xl.here hexec rfl (hb hbytes d26) rfl rfl ?_
        refine XS.iloadN Xl.here hexec rfl (hb hbytes d27) rfl ?_
        refine XS.iload Xl.here hexec rfl (hb hbytes d28) rfl ?_
        refine i2b Xl.here hexec rfl (hb hbytes d30) rfl ?_
        exact Steps.refl _)
      obtain ⟨T7, X7, p7, st7⟩ := Xl.aput hexec hBk rfl hlt rfl (fits_lo8 (cv A (o + i))) (g := (mkF m 31 #[.val (.ref b), .val (.int (Int32.ofNat (o + i))), .val (.ref d), .val (.int (Int32.ofNat (q + i))), .val (.int (Int32.ofNat len)), .val (.int (Int32.ofNat i)), .val (.int (cv A (o + i)))] [.int (lo8 (cv A (o + i))), .int (Int32.ofNat (q + i)), .ref d])) rfl (rest := []) rfl (hb hbytes d31)
      have c8 : Steps p.tables e below (s₁.setTop (entryFrame m #[.ref b, .int (Int32.ofNat o), .ref d, .int (Int32.ofNat q), .int (Int32.ofNat len)] 7)) (T7.setTop (mkF m 32 #[.val (.ref b), .val (.int (Int32.ofNat (o + i))), .val (.ref d), .val (.int (Int32.ofNat (q + i))), .val (.int (Int32.ofNat len)), .val (.int (Int32.ofNat i)), .val (.int (cv A (o + i)))] [])) := c6.trans (st7 _ (Steps.refl _))
      have c9 : Steps p.tables e below (s₁.setTop (entryFrame m #[.ref b, .int (Int32.ofNat o), .ref d, .int (Int32.ofNat q), .int (Int32.ofNat len)] 7)) (T7.setTop (mkF m 3 #[.val (.ref b), .val (.int (Int32.ofNat (o + i) + 1)), .val (.ref d), .val (.int (Int32.ofNat (q + i) + 1)), .val (.int (Int32.ofNat len)), .val (.int (Int32.ofNat i + 1)), .val (.int (cv A (o + i)))] [])) := c8.trans (by
        refine iincV X7.here hexec rfl 1 (hb hbytes d32) (by decide) rfl rfl ?_
        refine iincV X7.here hexec rfl 1 (hb hbytes d35) (by decide) rfl rfl ?_
        refine iincV X7.here hexec rfl 1 (hb hbytes d38) (by decide) rfl rfl ?_
        refine XS.goto X7.here hexec rfl (pc0 := 41) rfl (hb hbytes d41) (by decide) rfl ?_
        exact Steps.refl _)
      have c10 : Steps p.tables e below (s₁.setTop (entryFrame m #[.ref b, .int (Int32.ofNat o), .ref d, .int (Int32.ofNat q), .int (Int32.ofNat len)] 7)) (T7.setTop (mkF m 3 #[.val (.ref b), .val (.int (Int32.ofNat (o + (i + 1)))), .val (.ref d), .val (.int (Int32.ofNat (q + (i + 1)))), .val (.int (Int32.ofNat len)), .val (.int (Int32.ofNat (i + 1))), .val (.int (cv A (o + i)))] [])) := by
        have := c9
        rw [succ32, succ32, succ32] at this
        exact this
      exact ih (i + 1) (by omega) _ (Or.inr ⟨_, rfl, rfl⟩) T7 _ (by rw [copyLocs_step, ← List.append_assoc]; exact X7) (pl.trans p7) (fl.step (by omega) hlt (by simp)) c10
  obtain ⟨T9, B9, z9, X9, p9, f9, g9⟩ := loop len 0 (by omega) .unset (Or.inl rfl) s₁ B (by simpa [copyLocs] using X0) ⟨hB0.1, fun _ _ => rfl, rfl⟩ (Laid.zero _ _ _) c2
  have c11 : Steps p.tables e below (s₁.setTop (entryFrame m #[.ref b, .int (Int32.ofNat o), .ref d, .int (Int32.ofNat q), .int (Int32.ofNat len)] 7)) (T9.setTop (mkF m 46 #[.val (.ref b), .val (.int (Int32.ofNat (o + len))), .val (.ref d), .val (.int (Int32.ofNat (q + len))), .val (.int (Int32.ofNat len)), .val (.int (Int32.ofNat len)), z9] [.int (Int32.ofNat len)])) := g9.trans (by
    refine XS.iload X9.here hexec rfl (hb hbytes d3) rfl ?_
    refine XS.iload X9.here hexec rfl (hb hbytes d5) rfl ?_
    refine XS.icmpYes X9.here hexec rfl (pc0 := 7) rfl (hb hbytes d7) rfl (ii_ge_t (nlt32 (by omega) (Nat.le_refl _))) (by decide) rfl ?_
    refine XS.iload X9.here hexec rfl (hb hbytes d44) rfl ?_
    exact Steps.refl _)
  exact ⟨T9, some (.int (Int32.ofNat len)), _, _, _, X9, by simp, rfl, rfl, (fun h => by cases h), ⟨rfl, B9, p9.from hh0, f9⟩, fun fs hl => c11.trans (X9.ireturnOut hexec hret rfl (Or.inl rfl) (hb hbytes d46) hl)⟩
end Cmp5
namespace Cmp3
def yN : MethodName := ⟨"java/lang/StringUTF16", "compress", "([CII)[B"⟩
abbrev yB : ByteArray := jdk_52_method_16_code
theorem d0 : decode yB 0 = .ok (.iload_n 2, 1) := by decide +kernel
theorem d1 : decode yB 1 = .ok (.newarray .byte, 2) := by decide +kernel
theorem d3 : decode yB 3 = .ok (.astore_n 3, 1) := by decide +kernel
theorem d4 : decode yB 4 = .ok (.aload_n 0, 1) := by decide +kernel
theorem d5 : decode yB 5 = .ok (.iload_n 1, 1) := by decide +kernel
theorem d6 : decode yB 6 = .ok (.aload_n 3, 1) := by decide +kernel
theorem d7 : decode yB 7 = .ok (.iconst 0, 1) := by decide +kernel
theorem d8 : decode yB 8 = .ok (.iload_n 2, 1) := by decide +kernel
theorem d9 : decode yB 9 = .ok (.invokestatic 115, 3) := by decide +kernel
theorem d12 : decode yB 12 = .ok (.istore 4, 2) := by decide +kernel
theorem d14 : decode yB 14 = .ok (.iload 4, 2) := by decide +kernel
theorem d16 : decode yB 16 = .ok (.iload_n 2, 1) := by decide +kernel
theorem d17 : decode yB 17 = .ok (.if_icmp (.eq) 40, 3) := by decide +kernel
theorem d57 : decode yB 57 = .ok (.aload_n 3, 1) := by decide +kernel
theorem d58 : decode yB 58 = .ok (.areturn, 1) := by decide +kernel
def site : List Cond := [.arrayClass .byte, Cmp5.tab] ++ staticW U16 115 Cmp5.yN
def tab : Cond := tabOf yN yB 6 (some (.array .byte)) site
def P (b : Addr) (A : Cell) (o len : Nat) (args : Array Value) (s : State) : Prop := args = #[.ref b, .int (Int32.ofNat o), .int (Int32.ofNat len)] ∧ Ch b A s ∧ o + len ≤ A.slots.size ∧ len ≤ 536870912 ∧ ∀ i, i < len → ¬ 255 < cv A (o + i)
def E (b : Addr) (A : Cell) (o len : Nat) (r : Option Value) (s u : State) : Prop := NewArr .byte "[B" len (fun j => .int (lo8 (cv A (o + j)))) r s u ∧ u.heap.size = s.heap.size + 1
/-- no char of the range above 255: a new byte[] of their low bytes -/
theorem law (l : Launch) (b : Addr) (A : Cell) (o len : Nat) : Law l yN 3 3 1 18 yB 6 (some (.array .byte)) site (P b A o len) (E b A o len) [] 1 len := by
  refine Law.of_walk (plainFor_of_name (by decide +kernel)) (by decide +kernel) (by decide +kernel) (by decide) (fun _ _ h => by rw [h.1]; rfl) (fun _ U U' hal hh h => ⟨h.1, h.2.1.mv hal hh, h.2.2⟩) (fun r U U' V V' h1 hal h2 h => ⟨NewArr.mv r U U' V V' h1 hal h2 h.1, by rw [h1, h2]; exact h.2⟩) ?_
  intro p e s m args below meth c s₁ X0 hexec hbytes hml hret hlk hnm hown hh0 W hP
  obtain ⟨rfl, hA, l1, l2, hp⟩ := hP
  have a31 := hA.1.2.2.2
  have c1 : Steps p.tables e below (s₁.setTop (entryFrame m #[.ref b, .int (Int32.ofNat o), .int (Int32.ofNat len)] 6)) (s₁.setTop (mkF m 0 #[.val (.ref b), .val (.int (Int32.ofNat o)), .val (.int (Int32.ofNat len)), .unset, .unset, .unset] [])) := entry rfl
  have c2 : Steps p.tables e below (s₁.setTop (entryFrame m #[.ref b, .int (Int32.ofNat o), .int (Int32.ofNat len)] 6)) (s₁.setTop (mkF m 1 #[.val (.ref b), .val (.int (Int32.ofNat o)), .val (.int (Int32.ofNat len)), .unset, .unset, .unset] [.int (Int32.ofNat len)])) := c1.trans (by
    refine XS.iloadN X0.here hexec rfl (hb hbytes d0) rfl ?_
    exact Steps.refl _)
  obtain ⟨T3, B3, X3, ba3, bs3, bv3, bh3, bf3, st3⟩ := X0.anew hexec (atype := .byte) (wk W (.arrayClass .byte)) rfl (by show len * 1 ≤ _; omega) (by omega) (g := (mkF m 1 #[.val (.ref b), .val (.int (Int32.ofNat o)), .val (.int (Int32.ofNat len)), .unset, .unset, .unset] [.int (Int32.ofNat len)])) rfl (hb hbytes d1) (rest := []) rfl (Nat.le_refl _) (by show 0 + len ≤ len; omega)
  rw [hh0] at ba3 st3
  have kp3 : XT.Kept s T3 := (XT.Kept.of_eq hh0).push bh3
  have hA3 := hA.keep X3.warmed.alike (kp3 _ _ hA.1.1)
  have hne : b ≠ s.heap.size := hA.1.ne
  have c4 : Steps p.tables e below (s₁.setTop (entryFrame m #[.ref b, .int (Int32.ofNat o), .int (Int32.ofNat len)] 6)) (T3.setTop (mkF m 3 #[.val (.ref b), .val (.int (Int32.ofNat o)), .val (.int (Int32.ofNat len)), .unset, .unset, .unset] [.ref s.heap.size])) := c2.trans (st3 _ (Steps.refl _))
  have c5 : Steps p.tables e below (s₁.setTop (entryFrame m #[.ref b, .int (Int32.ofNat o), .int (Int32.ofNat len)] 6)) (T3.setTop (mkF m 9 #[.val (.ref b), .val (.int (Int32.ofNat o)), .val (.int (Int32.ofNat len)), .val (.ref s.heap.size), .unset, .unset] [.int (Int32.ofNat len), .int 0, .ref s.heap.size, .int (Int32.ofNat o), .ref b])) := c4.trans (by
    refine XS.astoreN X3.here hexec rfl (hb hbytes d3) rfl rfl rfl ?_
    refine XS.aloadN X3.here hexec rfl (hb hbytes d4) rfl rfl ?_
    refine XS.iloadN X3.here hexec rfl (hb hbytes d5) rfl ?_
    refine XS.aloadN X3.here hexec rfl (hb hbytes d6) rfl rfl ?_
    refine iconstV X3.here hexec rfl 0 (hb hbytes d7) (by decide) ?_
    refine XS.iloadN X3.here hexec rfl (hb hbytes d8) rfl ?_
    exact Steps.refl _)
  obtain ⟨v6, T6, X6, E6, g6⟩ := X3.callS hexec (Cmp5.law l b A s.heap.size B3 o 0 len) hown (wks W (staticW U16 115 Cmp5.yN)) (wk W Cmp5.tab) (W := 0) (Nat.le_of_ble_eq_true rfl) (Nat.le_of_ble_eq_true rfl) (Nat.le_refl _) (by show 0 + len + 0 ≤ len; omega) (g := (mkF m 9 #[.val (.ref b), .val (.int (Int32.ofNat o)), .val (.int (Int32.ofNat len)), .val (.ref s.heap.size), .unset, .unset] [.int (Int32.ofNat len), .int (Int32.ofNat 0), .ref s.heap.size, .int (Int32.ofNat o), .ref b])) rfl (by rw [hml]; rfl) c5 (argsL := [.ref b, .int (Int32.ofNat o), .ref s.heap.size, .int (Int32.ofNat 0), .int (Int32.ofNat len)]) (rest := []) rfl rfl (by show 2 * 0 + 0 ≤ _; decide) (hb hbytes d9) (⟨rfl, hA3, ba3, hne, l1, by rw [bs3]; simp, hp⟩)
  obtain ⟨rfl, B6, p6, f6⟩ := E6
  have c7 : Steps p.tables e below (s₁.setTop (entryFrame m #[.ref b, .int (Int32.ofNat o), .int (Int32.ofNat len)] 6)) (T6.setTop (mkF m 12 #[.val (.ref b), .val (.int (Int32.ofNat o)), .val (.int (Int32.ofNat len)), .val (.ref s.heap.size), .unset, .unset] [.int (Int32.ofNat len)])) := g6
  have c8 : Steps p.tables e below (s₁.setTop (entryFrame m #[.ref b, .int (Int32.ofNat o), .int (Int32.ofNat len)] 6)) (T6.setTop (mkF m 58 #[.val (.ref b), .val (.int (Int32.ofNat o)), .val (.int (Int32.ofNat len)), .val (.ref s.heap.size), .val (.int (Int32.ofNat len)), .unset] [.ref s.heap.size])) := c7.trans (by
    refine XS.istore X6.here hexec rfl (hb hbytes d12) rfl rfl ?_
    refine XS.iload X6.here hexec rfl (hb hbytes d14) rfl ?_
    refine XS.iloadN X6.here hexec rfl (hb hbytes d16) rfl ?_
    refine XS.icmpYes X6.here hexec rfl (pc0 := 17) rfl (hb hbytes d17) rfl (ii_eq_t rfl) (by decide) rfl ?_
    refine XS.aloadN X6.here hexec rfl (hb hbytes d57) rfl rfl ?_
    exact Steps.refl _)
  have X8 := X6.wide (L' := []) (cells' := 1) (slots' := len) (fun x hx hlt => by
    simp only [List.nil_append, copyLocs, List.mem_map, List.mem_range] at hx
    obtain ⟨i, -, rfl⟩ := hx
    exact absurd hlt (Nat.lt_irrefl _)) (Nat.le_refl _) (by omega)
  exact ⟨T6, some (.ref s.heap.size), _, _, _, X8, rfl, rfl, rfl, (fun h => by cases h), ⟨⟨rfl, B6, ba3.like (X3.warmed.alike.symm.trans X6.warmed.alike) p6.1 f6.1 f6.2.1 f6.2.2.1, f6.2.1.trans bv3, by rw [X6.warmed.alike.findClass, f6.1]; exact bf3, by rw [f6.2.2.1, bs3]; simp, fun j hj => by rw [f6.2.2.2 j, if_pos (by omega)]; rfl, kp3.put p6 (Nat.le_refl _)⟩, by rw [p6.2.2, bh3, hh0]; simp⟩, fun fs hl => c8.trans (X8.areturnOut hexec rfl hret rfl (hb hbytes d58) hl)⟩
end Cmp3
namespace CodL
def yN : MethodName := ⟨"java/lang/StringUTF16", "coderFromArrayLen", "([BI)B"⟩
abbrev yB : ByteArray := jdk_52_method_15_code
theorem d0 : decode yB 0 = .ok (.iload_n 1, 1) := by decide +kernel
theorem d1 : decode yB 1 = .ok (.aload_n 0, 1) := by decide +kernel
theorem d2 : decode yB 2 = .ok (.arraylength, 1) := by decide +kernel
theorem d3 : decode yB 3 = .ok (.isub, 1) := by decide +kernel
theorem d4 : decode yB 4 = .ok (.bipush 31, 2) := by decide +kernel
theorem d6 : decode yB 6 = .ok (.iushr, 1) := by decide +kernel
theorem d7 : decode yB 7 = .ok (.i2b, 1) := by decide +kernel
theorem d8 : decode yB 8 = .ok (.ireturn, 1) := by decide +kernel
def site : List Cond := []
def tab : Cond := tabOf yN yB 2 (some .byte) site
def P (d : Addr) (B : Cell) (args : Array Value) (s : State) : Prop := args = #[.ref d, .int (Int32.ofNat B.slots.size)] ∧ Arr .byte d B s
def E (r : Option Value) (s u : State) : Prop := XT.PureE (some (.int 0)) r s u
/-- an array as long as the number of chars: LATIN1 -/
theorem law (l : Launch) (d : Addr) (B : Cell) : Law l yN 2 2 0 0 yB 2 (some .byte) site (P d B) E [] 0 0 := by
  refine Law.of_walk (plainFor_of_name (by decide +kernel)) (by decide +kernel) (by decide +kernel) (by decide) (fun _ _ h => by rw [h.1]; rfl) (fun _ U U' hal hh h => ⟨h.1, h.2.mv hal hh⟩) (fun r U U' V V' h1 hal h2 h => XT.PureE.mv r U U' V V' h1 hal h2 h) ?_
  intro p e s m args below meth c s₁ X0 hexec hbytes hml hret hlk hnm hown hh0 W hP
  obtain ⟨rfl, hB⟩ := hP
  have hB0 := hB.mv X0.warmed.alike hh0
  have c1 : Steps p.tables e below (s₁.setTop (entryFrame m #[.ref d, .int (Int32.ofNat B.slots.size)] 2)) (s₁.setTop (mkF m 0 #[.val (.ref d), .val (.int (Int32.ofNat B.slots.size))] [])) := entry rfl
  have c2 : Steps p.tables e below (s₁.setTop (entryFrame m #[.ref d, .int (Int32.ofNat B.slots.size)] 2)) (s₁.setTop (mkF m 2 #[.val (.ref d), .val (.int (Int32.ofNat B.slots.size))] [.ref d, .int (Int32.ofNat B.slots.size)])) := c1.trans (by
    refine XS.iloadN X0.here hexec rfl (hb hbytes d0) rfl ?_
    refine XS.aloadN X0.here hexec rfl (hb hbytes d1) rfl rfl ?_
    exact Steps.refl _)
  have c3 : Steps p.tables e below (s₁.setTop (entryFrame m #[.ref d, .int (Int32.ofNat B.slots.size)] 2)) (s₁.setTop (mkF m 8 #[.val (.ref d), .val (.int (Int32.ofNat B.slots.size))] [.int (lo8 (ushr (Int32.ofNat B.slots.size - Int32.ofNat B.slots.size) 31))])) := c2.trans (by
    refine X0.alen hexec hB0 rfl rfl (hb hbytes d2) ?_
    refine XS.isub X0.here hexec rfl (hb hbytes d3) rfl ?_
    refine bipushV X0.here hexec rfl 31 (hb hbytes d4) (by decide) ?_
    refine iushr X0.here hexec rfl (hb hbytes d6) rfl ?_
    refine i2b X0.here hexec rfl (hb hbytes d7) rfl ?_
    exact Steps.refl _)
  have e0 : lo8 (ushr (Int32.ofNat B.slots.size - Int32.ofNat B.slots.size) 31) = 0 := by rw [Int32.sub_self]; decide
  rw [e0] at c3
  exact ⟨s₁, some (.int 0), _, _, _, X0, rfl, rfl, rfl, (fun h => by cases h), ⟨rfl, hh0⟩, fun fs hl => c3.trans (X0.ireturnOut hexec hret rfl (Or.inr (Or.inr (Or.inl rfl))) (hb hbytes d8) hl)⟩
end CodL
/-- the String at a is Latin-1 over a new byte[] (the heap's one new cell): the low bytes of the len chars of A from o on; every cell but a is kept -/
def Got (a : Addr) (D : Cell) (fV fC : Field) (A : Cell) (o len : Nat) (r : Option Value) (s u : State) : Prop := r = none ∧ ∃ D' V : Cell, Blank "java/lang/String" a D' u ∧ Same D D' [fV.slot, fC.slot] ∧ D'.slots[fV.slot]? = some (.ref s.heap.size) ∧ D'.slots[fC.slot]? = some (.int 0) ∧ Arr .byte s.heap.size V u ∧ V.vm = .none ∧ u.vm.findClass "[B" = some V.cls ∧ V.slots.size = len ∧ (∀ j, j < len → V.slots[j]? = some (.int (lo8 (cv A (o + j))))) ∧ (∀ (y : Addr) (c : Cell), y ≠ a → s.heap[y]? = some c → u.heap[y]? = some c) ∧ u.heap.size = s.heap.size + 1
theorem Got.mv {a : Addr} {D A : Cell} {fV fC : Field} {o len : Nat} : ∀ r (U U' V V' : State), U'.heap = U.heap → V.vm.Alike V'.vm → V'.heap = V.heap → Got a D fV fC A o len r U V → Got a D fV fC A o len r U' V' :=
  fun r U U' V V' h1 hal h2 ⟨e0, D', X, a1, a2, a3, a4, a5, a6, a7, a8, a9, a10, a11⟩ => ⟨e0, D', X, a1.mv hal h2, a2, by rw [h1]; exact a3, a4, by rw [h1]; exact a5.mv hal h2, a6, by rw [hal.findClass]; exact a7, a8, a9, by rw [h1, h2]; exact a10, by rw [h1, h2]; exact a11⟩
namespace New4
def yN : MethodName := ⟨"java/lang/String", "<init>", "([CIILjava/lang/Void;)V"⟩
abbrev yB : ByteArray := jdk_42_method_149_code
theorem d0 : decode yB 0 = .ok (.aload_n 0, 1) := by decide +kernel
theorem d1 : decode yB 1 = .ok (.invokespecial 1, 3) := by decide +kernel
theorem d4 : decode yB 4 = .ok (.iload_n 3, 1) := by decide +kernel
theorem d5 : decode yB 5 = .ok (.ifCond (.ne) 22, 3) := by decide +kernel
theorem d27 : decode yB 27 = .ok (.getstatic 38, 3) := by decide +kernel
theorem d30 : decode yB 30 = .ok (.ifCond (.eq) 28, 3) := by decide +kernel
theorem d33 : decode yB 33 = .ok (.aload_n 1, 1) := by decide +kernel
theorem d34 : decode yB 34 = .ok (.iload_n 2, 1) := by decide +kernel
theorem d35 : decode yB 35 = .ok (.iload_n 3, 1) := by decide +kernel
theorem d36 : decode yB 36 = .ok (.invokestatic 177, 3) := by decide +kernel
theorem d39 : decode yB 39 = .ok (.astore 5, 2) := by decide +kernel
theorem d41 : decode yB 41 = .ok (.aload_n 0, 1) := by decide +kernel
theorem d42 : decode yB 42 = .ok (.aload 5, 2) := by decide +kernel
theorem d44 : decode yB 44 = .ok (.iload_n 3, 1) := by decide +kernel
theorem d45 : decode yB 45 = .ok (.invokestatic 47, 3) := by decide +kernel
theorem d48 : decode yB 48 = .ok (.putfield 15, 3) := by decide +kernel
theorem d51 : decode yB 51 = .ok (.aload_n 0, 1) := by decide +kernel
theorem d52 : decode yB 52 = .ok (.aload 5, 2) := by decide +kernel
theorem d54 : decode yB 54 = .ok (.putfield 9, 3) := by decide +kernel
theorem d57 : decode yB 57 = .ok (.return_, 1) := by decide +kernel
def site : List Cond := [.fieldLink "java/lang/String" 38 "java/lang/String" "COMPACT_STRINGS" "Z", Cmp3.tab, CodL.tab, .laysFinal "java/lang/String" "java/lang/String" "value" "[B", .fieldLink "java/lang/String" 9 "java/lang/String" "value" "[B", .laysFinal "java/lang/String" "java/lang/String" "coder" "B", .fieldLink "java/lang/String" 15 "java/lang/String" "coder" "B"] ++ objW "java/lang/String" 1 ++ staticW "java/lang/String" 177 Cmp3.yN ++ staticW "java/lang/String" 47 CodL.yN
def tab : Cond := tabOf yN yB 6 none site
def P (a : Addr) (D : Cell) (fV fC : Field) (b : Addr) (A : Cell) (z : Int32) (o len : Nat) (args : Array Value) (s : State) : Prop := args = #[.ref a, .ref b, .int (Int32.ofNat o), .int (Int32.ofNat len), .null] ∧ Blank "java/lang/String" a D s ∧ Found "java/lang/String" "value" "[B" fV s ∧ Found "java/lang/String" "coder" "B" fC s ∧ Ch b A s ∧ StaticIs s "java/lang/String" "COMPACT_STRINGS" "Z" (.int z) ∧ ¬ z = 0 ∧ 0 < len ∧ o + len ≤ A.slots.size ∧ len ≤ 536870912 ∧ ∀ i, i < len → ¬ 255 < cv A (o + i)
def E (a : Addr) (D : Cell) (fV fC : Field) (A : Cell) (o len : Nat) (r : Option Value) (s u : State) : Prop := Got a D fV fC A o len r s u
/-- len > 0, no char of the range above 255: a Latin-1 String of their low bytes -/
theorem law (l : Launch) (a : Addr) (D : Cell) (fV fC : Field) (b : Addr) (A : Cell) (z : Int32) (o len : Nat) : Law l yN 5 4 2 35 yB 6 none site (P a D fV fC b A z o len) (E a D fV fC A o len) [⟨a, fC.slot⟩, ⟨a, fV.slot⟩] 1 len := by
  refine Law.of_walk (plainFor_of_name (by decide +kernel)) (by decide +kernel) (by decide +kernel) (by decide) (fun _ _ h => by rw [h.1]; rfl) (fun _ U U' hal hh h => ⟨h.1, h.2.1.mv hal hh, h.2.2.1.al hal, h.2.2.2.1.al hal, h.2.2.2.2.1.mv hal hh, h.2.2.2.2.2.1.there hal hh, h.2.2.2.2.2.2⟩) (fun r U U' V V' h1 hal h2 h => Got.mv r U U' V V' h1 hal h2 h) ?_
  intro p e s m args below meth c s₁ X0 hexec hbytes hml hret hlk hnm hown hh0 W hP
  obtain ⟨rfl, hB, f1, f2, hA, s1, hz, l0, l1, l2, hp⟩ := hP
  have a31 := hA.1.2.2.2
  have c1 : Steps p.tables e below (s₁.setTop (entryFrame m #[.ref a, .ref b, .int (Int32.ofNat o), .int (Int32.ofNat len), .null] 6)) (s₁.setTop (mkF m 0 #[.val (.ref a), .val (.ref b), .val (.int (Int32.ofNat o)), .val (.int (Int32.ofNat len)), .val .null, .unset] [])) := entry rfl
  have c2 : Steps p.tables e below (s₁.setTop (entryFrame m #[.ref a, .ref b, .int (Int32.ofNat o), .int (Int32.ofNat len), .null] 6)) (s₁.setTop (mkF m 1 #[.val (.ref a), .val (.ref b), .val (.int (Int32.ofNat o)), .val (.int (Int32.ofNat len)), .val .null, .unset] [.ref a])) := c1.trans (by
    refine XS.aloadN X0.here hexec rfl (hb hbytes d0) rfl rfl ?_
    exact Steps.refl _)
  obtain ⟨T3, X3, q3, st3⟩ := X0.oinit hexec hown (wks W (objW "java/lang/String" 1)) (g := (mkF m 1 #[.val (.ref a), .val (.ref b), .val (.int (Int32.ofNat o)), .val (.int (Int32.ofNat len)), .val .null, .unset] [.ref a])) rfl (by rw [hml]; rfl) (rest := []) rfl (hb hbytes d1) (W := 0) (by show 2 * 0 + 0 ≤ _; decide) (Nat.le_of_ble_eq_true rfl) (Nat.le_of_ble_eq_true rfl)
  have hh3 := q3.trans hh0
  have c4 : Steps p.tables e below (s₁.setTop (entryFrame m #[.ref a, .ref b, .int (Int32.ofNat o), .int (Int32.ofNat len), .null] 6)) (T3.setTop (mkF m 27 #[.val (.ref a), .val (.ref b), .val (.int (Int32.ofNat o)), .val (.int (Int32.ofNat len)), .val .null, .unset] [])) := (c2.trans (st3 _ (Steps.refl _))).trans (by
    refine XS.iloadN X3.here hexec rfl (hb hbytes d4) rfl ?_
    refine XS.ifYes X3.here hexec rfl (pc0 := 5) rfl (hb hbytes d5) rfl (i0_ne_t (nz32 (by omega) l0)) (by decide) rfl ?_
    exact Steps.refl _)
  obtain ⟨T5, X5, q5, st5⟩ := X3.sget hexec hown (wk W (.fieldLink "java/lang/String" 38 "java/lang/String" "COMPACT_STRINGS" "Z")) s1 (fun _ _ h => by rw [hh3]; exact h) (g := (mkF m 27 #[.val (.ref a), .val (.ref b), .val (.int (Int32.ofNat o)), .val (.int (Int32.ofNat len)), .val .null, .unset] [])) rfl (hb hbytes d27)
  have hh5 := q5.trans hh3
  have c6 : Steps p.tables e below (s₁.setTop (entryFrame m #[.ref a, .ref b, .int (Int32.ofNat o), .int (Int32.ofNat len), .null] 6)) (T5.setTop (mkF m 30 #[.val (.ref a), .val (.ref b), .val (.int (Int32.ofNat o)), .val (.int (Int32.ofNat len)), .val .null, .unset] [.int z])) := c4.trans (st5 _ (Steps.refl _))
  have c7 : Steps p.tables e below (s₁.setTop (entryFrame m #[.ref a, .ref b, .int (Int32.ofNat o), .int (Int32.ofNat len), .null] 6)) (T5.setTop (mkF m 36 #[.val (.ref a), .val (.ref b), .val (.int (Int32.ofNat o)), .val (.int (Int32.ofNat len)), .val .null, .unset] [.int (Int32.ofNat len), .int (Int32.ofNat o), .ref b])) := c6.trans (by
    refine XS.ifNo X5.here hexec rfl (hb hbytes d30) rfl (i0_eq_f hz) ?_
    refine XS.aloadN X5.here hexec rfl (hb hbytes d33) rfl rfl ?_
    refine XS.iloadN X5.here hexec rfl (hb hbytes d34) rfl ?_
    refine XS.iloadN X5.here hexec rfl (hb hbytes d35) rfl ?_
    exact Steps.refl _)
  obtain ⟨v8, T8, X8, E8, g8⟩ := X5.callS hexec (Cmp3.law l b A o len) hown (wks W (staticW "java/lang/String" 177 Cmp3.yN)) (wk W Cmp3.tab) (W := 0) (Nat.le_of_ble_eq_true rfl) (Nat.le_of_ble_eq_true rfl) (Nat.le_refl _) (by show 0 + len ≤ len; omega) (g := (mkF m 36 #[.val (.ref a), .val (.ref b), .val (.int (Int32.ofNat o)), .val (.int (Int32.ofNat len)), .val .null, .unset] [.int (Int32.ofNat len), .int (Int32.ofNat o), .ref b])) rfl (by rw [hml]; rfl) c7 (argsL := [.ref b, .int (Int32.ofNat o), .int (Int32.ofNat len)]) (rest := []) rfl rfl (by show 2 * 0 + 0 ≤ _; decide) (hb hbytes d36) (⟨rfl, hA.mv X5.warmed.alike hh5, l1, l2, hp⟩)
  obtain ⟨e8, z8⟩ := E8
  obtain ⟨rfl, N, n1, n2, n3, n4, n5, n6⟩ := NewArr.mv _ T5 s _ _ hh5.symm (Vm.Alike.refl _) rfl e8
  rw [hh5] at z8
  have hB1 := hB.keep X8.warmed.alike (n6 _ _ hB.1)
  have hne : s.heap.size ≠ a := (Nat.ne_of_lt (Array.getElem?_eq_some_iff.mp hB.1).1).symm
  have c9 : Steps p.tables e below (s₁.setTop (entryFrame m #[.ref a, .ref b, .int (Int32.ofNat o), .int (Int32.ofNat len), .null] 6)) (T8.setTop (mkF m 39 #[.val (.ref a), .val (.ref b), .val (.int (Int32.ofNat o)), .val (.int (Int32.ofNat len)), .val .null, .unset] [.ref s.heap.size])) := g8
  have c10 : Steps p.tables e below (s₁.setTop (entryFrame m #[.ref a, .ref b, .int (Int32.ofNat o), .int (Int32.ofNat len), .null] 6)) (T8.setTop (mkF m 45 #[.val (.ref a), .val (.ref b), .val (.int (Int32.ofNat o)), .val (.int (Int32.ofNat len)), .val .null, .val (.ref s.heap.size)] [.int (Int32.ofNat N.slots.size), .ref s.heap.size, .ref a])) := by
    have hc : Steps p.tables e below (s₁.setTop (entryFrame m #[.ref a, .ref b, .int (Int32.ofNat o), .int (Int32.ofNat len), .null] 6)) (T8.setTop (mkF m 45 #[.val (.ref a), .val (.ref b), .val (.int (Int32.ofNat o)), .val (.int (Int32.ofNat len)), .val .null, .val (.ref s.heap.size)] [.int (Int32.ofNat len), .ref s.heap.size, .ref a])) := c9.trans (by
      refine XS.astore X8.here hexec rfl (hb hbytes d39) rfl rfl rfl ?_
      refine XS.aloadN X8.here hexec rfl (hb hbytes d41) rfl rfl ?_
      refine XS.aload X8.here hexec rfl (hb hbytes d42) rfl rfl ?_
      refine XS.iloadN X8.here hexec rfl (hb hbytes d44) rfl ?_
      exact Steps.refl _)
    rw [n4]; exact hc
  obtain ⟨v11, T11, X11, E11, g11⟩ := X8.callS hexec (CodL.law l s.heap.size N) hown (wks W (staticW "java/lang/String" 47 CodL.yN)) (wk W CodL.tab) (W := 1) (Nat.le_of_ble_eq_true rfl) (Nat.le_of_ble_eq_true rfl) (Nat.le_refl _) (by show 0 + len + 0 ≤ len; omega) (g := (mkF m 45 #[.val (.ref a), .val (.ref b), .val (.int (Int32.ofNat o)), .val (.int (Int32.ofNat len)), .val .null, .val (.ref s.heap.size)] [.int (Int32.ofNat N.slots.size), .ref s.heap.size, .ref a])) rfl (by rw [hml]; rfl) c10 (argsL := [.ref s.heap.size, .int (Int32.ofNat N.slots.size)]) (rest := [.ref a]) rfl rfl (by show 2 * 0 + (1 + 0) ≤ _; decide) (hb hbytes d45) (⟨rfl, n1⟩)
  obtain ⟨rfl, q11⟩ := E11
  have hB11 := hB1.mv (X8.warmed.alike.symm.trans X11.warmed.alike) q11
  have c12 : Steps p.tables e below (s₁.setTop (entryFrame m #[.ref a, .ref b, .int (Int32.ofNat o), .int (Int32.ofNat len), .null] 6)) (T11.setTop (mkF m 48 #[.val (.ref a), .val (.ref b), .val (.int (Int32.ofNat o)), .val (.int (Int32.ofNat len)), .val .null, .val (.ref s.heap.size)] [.int 0, .ref a])) := g11
  obtain ⟨T13, X13, p13, bl13, sl13, st13⟩ := X11.finit hexec hown (wk W (.fieldLink "java/lang/String" 15 "java/lang/String" "coder" "B")) (Or.inr ⟨_, (wk W (.laysFinal "java/lang/String" "java/lang/String" "coder" "B"))⟩) (Or.inl ⟨rfl, hnm⟩) f2 (Or.inl rfl) hB11 (t := .byte) (by decide +kernel) rfl (g := (mkF m 48 #[.val (.ref a), .val (.ref b), .val (.int (Int32.ofNat o)), .val (.int (Int32.ofNat len)), .val .null, .val (.ref s.heap.size)] [.int 0, .ref a])) rfl (rest := []) rfl (hb hbytes d48)
  have c14 : Steps p.tables e below (s₁.setTop (entryFrame m #[.ref a, .ref b, .int (Int32.ofNat o), .int (Int32.ofNat len), .null] 6)) (T13.setTop (mkF m 54 #[.val (.ref a), .val (.ref b), .val (.int (Int32.ofNat o)), .val (.int (Int32.ofNat len)), .val .null, .val (.ref s.heap.size)] [.ref s.heap.size, .ref a])) := (c12.trans (st13 _ (Steps.refl _))).trans (by
    refine XS.aloadN X13.here hexec rfl (hb hbytes d51) rfl rfl ?_
    refine XS.aload X13.here hexec rfl (hb hbytes d52) rfl rfl ?_
    exact Steps.refl _)
  obtain ⟨T15, X15, p15, bl15, sl15, st15⟩ := X13.finit hexec hown (wk W (.fieldLink "java/lang/String" 9 "java/lang/String" "value" "[B")) (Or.inr ⟨_, (wk W (.laysFinal "java/lang/String" "java/lang/String" "value" "[B"))⟩) (Or.inl ⟨rfl, hnm⟩) f1 (Or.inl rfl) bl13 (t := (.array .byte)) (by decide +kernel) rfl (g := (mkF m 54 #[.val (.ref a), .val (.ref b), .val (.int (Int32.ofNat o)), .val (.int (Int32.ofNat len)), .val .null, .val (.ref s.heap.size)] [.ref s.heap.size, .ref a])) rfl (rest := []) rfl (hb hbytes d54)
  have c16 : Steps p.tables e below (s₁.setTop (entryFrame m #[.ref a, .ref b, .int (Int32.ofNat o), .int (Int32.ofNat len), .null] 6)) (T15.setTop (mkF m 57 #[.val (.ref a), .val (.ref b), .val (.int (Int32.ofNat o)), .val (.int (Int32.ofNat len)), .val .null, .val (.ref s.heap.size)] [])) := c14.trans (st15 _ (Steps.refl _))
  have ap := apart (Or.inr ⟨_, (wk W (.laysFinal "java/lang/String" "java/lang/String" "value" "[B"))⟩) (Or.inr ⟨_, (wk W (.laysFinal "java/lang/String" "java/lang/String" "coder" "B"))⟩) f1 f2 (t₁ := .array .byte) (t₂ := .byte) (by decide +kernel) (by decide +kernel) (by decide)
  have al := X8.warmed.alike.symm.trans X15.warmed.alike
  have n7 : T11.heap[s.heap.size]? = some N := by rw [q11]; exact n1.1
  exact ⟨T15, none, _, _, _, X15, by simp, rfl, by omega, (fun _ => rfl), ⟨rfl, _, N, bl15, ((Same.refl D _).set _ (by simp)).set _ (by simp), sl15, (Cell.slots_setSlot_ne _ ap).trans sl13, n1.keep al (p15.other hne (p13.other hne n7)), n2, by rw [al.findClass]; exact n3, n4, n5, fun y c h1 h2 => p15.other h1 (p13.other h1 (by rw [q11]; exact n6 y c h2)), by rw [p15.2.2, p13.2.2, q11]; exact z8⟩, fun fs hl => c16.trans (X15.returnOut hexec hret (hb hbytes d57) hl)⟩
end New4
namespace New1
def yN : MethodName := ⟨"java/lang/String", "<init>", "([C)V"⟩
abbrev yB : ByteArray := jdk_42_method_3_code
theorem d0 : decode yB 0 = .ok (.aload_n 0, 1) := by decide +kernel
theorem d1 : decode yB 1 = .ok (.aload_n 1, 1) := by decide +kernel
theorem d2 : decode yB 2 = .ok (.iconst 0, 1) := by decide +kernel
theorem d3 : decode yB 3 = .ok (.aload_n 1, 1) := by decide +kernel
theorem d4 : decode yB 4 = .ok (.arraylength, 1) := by decide +kernel
theorem d5 : decode yB 5 = .ok (.aconst_null, 1) := by decide +kernel
theorem d6 : decode yB 6 = .ok (.invokespecial 27, 3) := by decide +kernel
theorem d9 : decode yB 9 = .ok (.return_, 1) := by decide +kernel
def site : List Cond := [New4.tab] ++ initW "java/lang/String" 27 New4.yN
def tab : Cond := tabOf yN yB 2 none site
def P (a : Addr) (D : Cell) (fV fC : Field) (b : Addr) (A : Cell) (z : Int32) (args : Array Value) (s : State) : Prop := args = #[.ref a, .ref b] ∧ Blank "java/lang/String" a D s ∧ Found "java/lang/String" "value" "[B" fV s ∧ Found "java/lang/String" "coder" "B" fC s ∧ Ch b A s ∧ StaticIs s "java/lang/String" "COMPACT_STRINGS" "Z" (.int z) ∧ ¬ z = 0 ∧ 0 < A.slots.size ∧ A.slots.size ≤ 536870912 ∧ ∀ i, i < A.slots.size → ¬ 255 < cv A i
def E (a : Addr) (D : Cell) (fV fC : Field) (A : Cell) (r : Option Value) (s u : State) : Prop := Got a D fV fC A 0 A.slots.size r s u
/-- new String(chars), not empty, no char above 255: a Latin-1 String of their low bytes -/
theorem law (l : Launch) (a : Addr) (D : Cell) (fV fC : Field) (b : Addr) (A : Cell) (z : Int32) : Law l yN 2 1 3 52 yB 2 none site (P a D fV fC b A z) (E a D fV fC A) [⟨a, fC.slot⟩, ⟨a, fV.slot⟩] 1 A.slots.size := by
  refine Law.of_walk (plainFor_of_name (by decide +kernel)) (by decide +kernel) (by decide +kernel) (by decide) (fun _ _ h => by rw [h.1]; rfl) (fun _ U U' hal hh h => ⟨h.1, h.2.1.mv hal hh, h.2.2.1.al hal, h.2.2.2.1.al hal, h.2.2.2.2.1.mv hal hh, h.2.2.2.2.2.1.there hal hh, h.2.2.2.2.2.2⟩) (fun r U U' V V' h1 hal h2 h => Got.mv r U U' V V' h1 hal h2 h) ?_
  intro p e s m args below meth c s₁ X0 hexec hbytes hml hret hlk hnm hown hh0 W hP
  obtain ⟨rfl, hB, f1, f2, hA, s1, hz, l0, l2, hp⟩ := hP
  have c1 : Steps p.tables e below (s₁.setTop (entryFrame m #[.ref a, .ref b] 2)) (s₁.setTop (mkF m 0 #[.val (.ref a), .val (.ref b)] [])) := entry rfl
  have c2 : Steps p.tables e below (s₁.setTop (entryFrame m #[.ref a, .ref b] 2)) (s₁.setTop (mkF m 6 #[.val (.ref a), .val (.ref b)] [.null, .int (Int32.ofNat A.slots.size), .int 0, .ref b, .ref a])) := c1.trans (by
    refine XS.aloadN X0.here hexec rfl (hb hbytes d0) rfl rfl ?_
    refine XS.aloadN X0.here hexec rfl (hb hbytes d1) rfl rfl ?_
    refine iconstV X0.here hexec rfl 0 (hb hbytes d2) (by decide) ?_
    refine XS.aloadN X0.here hexec rfl (hb hbytes d3) rfl rfl ?_
    refine X0.alen hexec (hA.1.mv X0.warmed.alike hh0) rfl rfl (hb hbytes d4) ?_
    refine XS.aconstNull X0.here hexec rfl (hb hbytes d5) ?_
    exact Steps.refl _)
  obtain ⟨v3, T3, X3, E3, g3⟩ := X0.callN hexec (New4.law l a D fV fC b A z 0 A.slots.size) rfl hown (wks W (initW "java/lang/String" 27 New4.yN)) (W New4.tab (by simp only [site, List.mem_cons, List.mem_append, true_or, or_true])) (W := 0) (Nat.le_of_ble_eq_true rfl) (Nat.le_of_ble_eq_true rfl) (Nat.le_refl _) (by show 0 + A.slots.size ≤ A.slots.size; omega) (g := (mkF m 6 #[.val (.ref a), .val (.ref b)] [.null, .int (Int32.ofNat A.slots.size), .int (Int32.ofNat 0), .ref b, .ref a])) rfl (by rw [hml]; rfl) c2 (argsL := [.ref b, .int (Int32.ofNat 0), .int (Int32.ofNat A.slots.size), .null]) (rest := []) rfl rfl (by show 2 * 0 + 0 ≤ _; decide) (hb hbytes d6) (⟨rfl, hB.mv X0.warmed.alike hh0, f1.al X0.warmed.alike, f2.al X0.warmed.alike, hA.mv X0.warmed.alike hh0, s1.there X0.warmed.alike hh0, hz, l0, by omega, l2, fun i hi => by rw [Nat.zero_add]; exact hp i hi⟩)
  have e0 := Got.mv _ s₁ s _ _ hh0.symm (Vm.Alike.refl _) rfl E3
  obtain rfl := e0.1
  have c4 : Steps p.tables e below (s₁.setTop (entryFrame m #[.ref a, .ref b] 2)) (T3.setTop (mkF m 9 #[.val (.ref a), .val (.ref b)] [])) := g3
  exact ⟨T3, none, _, _, _, X3, by simp, rfl, by omega, (fun _ => rfl), e0, fun fs hl => c4.trans (X3.returnOut hexec hret (hb hbytes d9) hl)⟩
theorem pays {l : Launch} {R : Room} {p : Program} {e : Env} {below : List Frame} {s : State} {sargs : Array Value} {len W : Nat} (a : Addr) (D : Cell) (fV fC : Field) (b : Addr) (A : Cell) (z : Int32) (htab : tab.before sargs s = true) (hfr : 4 ≤ R.frames) (hlo : W + 65 ≤ R.locals) :
    Back l R p e below s sargs yN len W (fun A₁ a₁ => A₁.cells + 1 ≤ R.cells ∧ A₁.slots + A.slots.size ≤ R.slots ∧ P a D fV fC b A z a₁ A₁.U) (fun A₁ _ v₁ B₁ => E a D fV fC A v₁ A₁.U B₁.U ∧ B₁.locs = A₁.locs ++ [⟨a, fC.slot⟩, ⟨a, fV.slot⟩] ∧ B₁.cells = A₁.cells + 1 ∧ B₁.slots = A₁.slots + A.slots.size) :=
  (law l a D fV fC b A z).pays htab hfr (by omega)
end New1
/-- the byte, read back as charAt reads it, is the char -/
theorem lo8_mask {x : Int32} (h0 : ¬ x < 0) (h1 : ¬ 255 < x) : lo8 x &&& 255 = x := by
  have t : ∀ k : Fin 256, lo8 (Int32.ofNat k.val) &&& 255 = Int32.ofNat k.val := by decide +kernel
  rw [Int32.lt_iff_toInt_lt] at h0 h1
  have e0 : (0 : Int32).toInt = 0 := rfl
  have e1 : (255 : Int32).toInt = 255 := rfl
  obtain ⟨k, hk⟩ : ∃ k : Nat, x.toInt = k := ⟨x.toInt.toNat, by omega⟩
  have hx : x = Int32.ofNat k := Int32.toInt_inj.mp (by rw [hk, Int32.toInt_ofNat_small (by omega)])
  rw [hx]
  exact t ⟨k, by omega⟩
end StrChars
namespace StrChars.Road
open Jvm Sem ClassFile Op Lib Jvm.Stand Jvm.Free Jvm.Free.XT
open Jvm.Lib.Cold (StaticIs)
abbrev ST : String := "java/lang/String"
/-- every table word that New1's law asks, flat -/
abbrev words : List Jvm.Cond := [.code New1.yN New1.yB 2 none, .initialized ST, .methodLink ST 27 New4.yN, .instanceMethod New4.yN,
  .code New4.yN New4.yB 6 none, .fieldLink ST 38 ST "COMPACT_STRINGS" "Z", .laysFinal ST ST "value" "[B", .fieldLink ST 9 ST "value" "[B", .laysFinal ST ST "coder" "B", .fieldLink ST 15 ST "coder" "B",
  .methodLink ST 1 Lib.objectInit, .instanceMethod Lib.objectInit, .code Lib.objectInit ⟨#[0xb1]⟩ 1 none, .methodLink ST 177 Cmp3.yN, .static Cmp3.yN, .methodLink ST 47 CodL.yN, .static CodL.yN,
  .code Cmp3.yN Cmp3.yB 6 (some (.array .byte)), .initialized U16, .arrayClass .byte, .methodLink U16 115 Cmp5.yN, .static Cmp5.yN, .code Cmp5.yN Cmp5.yB 7 (some .int), .code CodL.yN CodL.yB 2 (some .byte)]
theorem tab_of {a : Array Value} {s : State} (h : ∀ w ∈ words, w.before a s = true) : New1.tab.before a s = true := by
  have h5 : Cmp5.tab.before a s = true := unparts (wk h (.code Cmp5.yN Cmp5.yB 7 (some .int))) (wks h (.initialized Cmp5.yN.cls :: Cmp5.site))
  have hc : CodL.tab.before a s = true := unparts (wk h (.code CodL.yN CodL.yB 2 (some .byte))) (wks h (.initialized CodL.yN.cls :: CodL.site))
  have q5 : ∀ w ∈ Cmp5.tab :: words, w.before a s = true := fun w hw => (List.mem_cons.mp hw).elim (fun e => e ▸ h5) (h w)
  have h3 : Cmp3.tab.before a s = true := unparts (wk q5 (.code Cmp3.yN Cmp3.yB 6 (some (.array .byte)))) (wks q5 (.initialized Cmp3.yN.cls :: Cmp3.site))
  have q3 : ∀ w ∈ Cmp3.tab :: CodL.tab :: words, w.before a s = true := fun w hw => (List.mem_cons.mp hw).elim (fun e => e ▸ h3) fun hw => (List.mem_cons.mp hw).elim (fun e => e ▸ hc) (h w)
  have h4 : New4.tab.before a s = true := unparts (wk q3 (.code New4.yN New4.yB 6 none)) (wks q3 (.initialized New4.yN.cls :: New4.site))
  have q4 : ∀ w ∈ New4.tab :: words, w.before a s = true := fun w hw => (List.mem_cons.mp hw).elim (fun e => e ▸ h4) (h w)
  exact unparts (wk q4 (.code New1.yN New1.yB 2 none)) (wks q4 (.initialized New1.yN.cls :: New1.site))
/-- the words ride from the start Z to the walk's own state -/
theorem moved {Z s : State} {a0 args : Array Value} (hZ : Z.Warmed39 s.vm) (hw : ∀ d ∈ words, d.before a0 Z = true) : ∀ d ∈ words, d.before args s = true := fun d hd => by
  have q := hw d hd
  have t : ∀ d ∈ words, d = .arrayClass .byte ∨ (d.onTables && d.keepsFace) = true := by decide +kernel
  rcases t d hd with rfl | t
  · exact RoadKit.mvA hZ q
  · exact RoadKit.mv hZ q t
/-- WHAT COMES BACK, over the tables of the start Z: h the heap at the call, h' behind it -/
def Q (Z : State) (x : Addr) (A : Cell) (h : Heap) (v : Option Value) (h' : Heap) (L : List Loc) : Prop := v = none ∧ (∀ y ∈ L, y.base = x) ∧ RoadKit.Keep h h' [x] ∧ h'.size = h.size + 1 ∧ RoadKit.Exa Z h' x ST ∧ RoadKit.Fld Z h' x ST "value" "[B" (.ref h.size) ∧ RoadKit.Fld Z h' x ST "coder" "B" (.int 0) ∧
  (∃ V : Cell, RoadKit.Arr Z h' h.size V .byte ∧ V.vm = .none ∧ Z.vm.findClass "[B" = some V.cls ∧ V.slots.size = A.slots.size ∧ ∀ j, j < A.slots.size → V.slots[j]? = some (.int (lo8 (cv A j)))) ∧
  ∀ (O n d : String) (w : Value), RoadKit.Fld Z h x O n d w → RoadKit.slotOf Z O n d ≠ RoadKit.slotOf Z ST "value" "[B" → RoadKit.slotOf Z O n d ≠ RoadKit.slotOf Z ST "coder" "B" → RoadKit.Fld Z h' x O n d w
/-- **new String(chars) AT A CALL, IN THE ROAD'S FORM**: for specialBack behind newO: x the fresh String, b the char[] with the cell A -/
theorem back {p : Program} {l : Launch} {e : Env} {R : Room} {s : State} {args : Array Value} {below : List Frame} {len W : Nat} {Z : State} {a0 : Array Value} {h : Heap} (hZ : Z.Warmed39 s.vm) (hw : ∀ d ∈ words, d.before a0 Z = true) {kI : Nat} (wi : (Jvm.Cond.instantiable ST kI).before a0 Z = true)
    {x b : Addr} {A : Cell} {z : Int32} {v0 c0 : Value} (E : RoadKit.Exa Z h x ST) (V : RoadKit.Fld Z h x ST "value" "[B" v0) (C : RoadKit.Fld Z h x ST "coder" "B" c0) (K : RoadKit.Arr Z h b A .char) (hty : Typed .char A) (S : RoadKit.Sta Z h ST "COMPACT_STRINGS" "Z" (.int z)) (hz : ¬ z = 0)
    (l0 : 0 < A.slots.size) (l2 : A.slots.size ≤ 536870912) (hp : ∀ i, i < A.slots.size → ¬ 255 < cv A i) (hfr : 4 ≤ R.frames) (hlo : W + 65 ≤ R.locals) :
    Back l R p e below s args New1.yN len W (fun P a => a = #[.ref x, .ref b] ∧ P.U.heap = h ∧ P.cells + 1 ≤ R.cells ∧ P.slots + A.slots.size ≤ R.slots)
      (fun P _ v B => ∃ L, Q Z x A h v B.U.heap L ∧ B.locs = P.locs ++ L ∧ B.cells = P.cells + 1 ∧ B.slots = P.slots + A.slots.size) := by
  intro m meth c P g ig mk a X hg hsize hdg hW hn hp'
  obtain ⟨rfl, rfl, r1, r2⟩ := hp'
  have al : Z.vm.Alike P.U.vm := hZ.alike.trans X.warmed.alike
  obtain ⟨D, cfV, kV, iV, fV, hD, gV, stV, knV, obV, asV, slV⟩ := id V
  obtain ⟨D', cfC, kC, iC, fC, hD', gC, stC, -, -, asC, slC⟩ := id C
  cases hD.symm.trans hD'
  obtain ⟨D2, kD, e1, e2, e3, e4, e5⟩ := id E
  cases hD.symm.trans e1
  obtain ⟨c2, k2, i1, i2, i3, -⟩ := Cond.instantiable_spec wi
  cases e2.symm.trans i1
  cases e3.symm.trans i2
  obtain ⟨kU, u1, u2⟩ := al.2.2 _ _ e3
  have hB : Blank ST x D P.U := ⟨hD, ⟨knV, fun q hq => by rw [hq] at obV; cases obV⟩, by rw [al.findClass]; exact e2, kU, u1, by rw [u2]; exact i3, by rw [u2]; exact e5 i3⟩
  have F1 : Found ST "value" "[B" fV P.U := ⟨SBG.found_only al ⟨cfV, kV, iV, gV⟩, stV⟩
  have F2 : Found ST "coder" "B" fC P.U := ⟨SBG.found_only al ⟨cfC, kC, iC, gC⟩, stC⟩
  have hA : Ch b A P.U := ⟨⟨K.1, State.isArrayOf_alike al K.2.1, K.2.2, by omega⟩, hty⟩
  have hS : StaticIs P.U ST "COMPACT_STRINGS" "Z" (.int z) := by
    obtain ⟨cfS, iS, kS, fS, st, cS, t1, t2, t3, t4, t5, t6, t7⟩ := S
    exact StaticIs.there (s := { Z with heap := P.U.heap }) ⟨cfS, iS, kS, fS, st, cS, t1, t2, t3, t4, t5, (fun q => by rw [q] at t6; cases t6), t7⟩ al rfl
  obtain ⟨v, B, X', ⟨⟨hv, E', V', q1, q2, q3, q4, q5, q6, q7, q8, q9, q10, q11⟩, hl, hc, hs⟩, st⟩ := New1.pays x D fV fC b A z (tab_of (moved hZ hw)) hfr hlo m meth c P g ig mk _ X hg hsize hdg hW hn ⟨r1, r2, rfl, hB, F1, F2, hA, hS, hz, l0, l2, hp⟩
  have al' : Z.vm.Alike B.U.vm := hZ.alike.trans X'.warmed.alike
  have hsz : E'.slots.size = D.slots.size := by
    obtain ⟨-, -, -, kB, w1, w2, w3⟩ := q1
    obtain ⟨kB', y1, y2⟩ := al'.2.2 _ _ e3
    rw [q2.2.1] at w1
    cases w1.symm.trans y1
    rw [w3, e5 i3, y2]
  refine ⟨v, B, X', ⟨_, ⟨hv, ?_, ⟨by omega, fun y cy hy hn' => q10 y cy (by simpa using hn') hy, fun y cy hy => ?_⟩, q11, ⟨E', _, q1.1, by rw [q2.2.1]; exact e2, by rw [q2.2.1]; exact e3, by rw [q2.1]; exact obV, fun _ => by rw [hsz]; exact e5 i3⟩,
    ⟨E', cfV, kV, iV, fV, q1.1, gV, stV, by rw [q2.1]; exact knV, by rw [q2.1]; exact obV, by rw [q2.2.1]; exact asV, q3⟩, ⟨E', cfC, kC, iC, fC, q1.1, gC, stC, by rw [q2.1]; exact knV, by rw [q2.1]; exact obV, by rw [q2.2.1]; exact asC, q4⟩,
    ⟨V', ⟨q5.1, State.isArrayOf_alike al'.symm q5.2.1, q5.2.2.1⟩, q6, by rw [← al'.findClass]; exact q7, q8, fun j hj => by have := q9 j hj; rwa [Nat.zero_add] at this⟩, fun O n d w F n1 n2 => ?_⟩, hl, hc, hs⟩, st⟩
  · intro y hy
    simp only [List.mem_cons, List.not_mem_nil, or_false] at hy
    rcases hy with rfl | rfl <;> rfl
  · by_cases q : y = x
    · subst q
      cases hD.symm.trans hy
      exact ⟨E', q1.1, q2.2.1, q2.1, hsz⟩
    · exact ⟨cy, q10 y cy q hy, rfl, rfl, rfl⟩
  · obtain ⟨D3, cf, k, i, f, g1, g2, g3, g4, g5, g6, g7⟩ := F
    cases hD.symm.trans g1
    simp only [RoadKit.slotOf, g2, gV, gC, Option.map_some, Option.getD_some] at n1 n2
    exact ⟨E', cf, k, i, f, q1.1, g2, g3, by rw [q2.1]; exact g4, by rw [q2.1]; exact g5, by rw [q2.2.1]; exact g6, by rw [q2.2.2 f.slot (by simp [n1, n2])]; exact g7⟩
end StrChars.Road
namespace StrChars.Road
open Jvm Sem ClassFile Op Lib Jvm.Stand Jvm.Free Jvm.Free.XT
/-- WHAT COMES BACK, the byte[] as a list of values -/
def QA (Z : State) (x : Addr) (zn : Int32) (cs : List Int32) (h : Heap) (v : Option Value) (h' : Heap) (L : List Loc) : Prop := v = none ∧ (∀ y ∈ L, y.base = x) ∧ RoadKit.Keep h h' [x] ∧ h'.size = h.size + 1 ∧ RoadKit.Exa Z h' x ST ∧ RoadKit.Fld Z h' x ST "value" "[B" (.ref h.size) ∧ RoadKit.Fld Z h' x ST "coder" "B" (.int 0) ∧
  (∃ kb, Z.vm.findClass "[B" = some kb ∧ RoadKit.Arv Z h' h.size kb .byte zn (cs.map fun c => .int (lo8 c)) (.int 0)) ∧
  ∀ (O n d : String) (w : Value), RoadKit.Fld Z h x O n d w → RoadKit.slotOf Z O n d ≠ RoadKit.slotOf Z ST "value" "[B" → RoadKit.slotOf Z O n d ≠ RoadKit.slotOf Z ST "coder" "B" → RoadKit.Fld Z h' x O n d w
/-- **new String(chars) AT A CALL, THE ARRAYS AS LISTS**: the char[] at b holds cs, not empty, no char above 255 -/
theorem backArv {p : Program} {l : Launch} {e : Env} {R : Room} {s : State} {args : Array Value} {below : List Frame} {len W : Nat} {Z : State} {a0 : Array Value} {h : Heap} (hZ : Z.Warmed39 s.vm) (hw : ∀ d ∈ words, d.before a0 Z = true) {kI : Nat} (wi : (Jvm.Cond.instantiable ST kI).before a0 Z = true)
    {x b : Addr} {k : ClassId} {zn z : Int32} {cs : List Int32} {dv v0 c0 : Value} (E : RoadKit.Exa Z h x ST) (V : RoadKit.Fld Z h x ST "value" "[B" v0) (C : RoadKit.Fld Z h x ST "coder" "B" c0) (K : RoadKit.Arv Z h b k .char zn (cs.map Value.int) dv) (S : RoadKit.Sta Z h ST "COMPACT_STRINGS" "Z" (.int z)) (hz : ¬ z = 0)
    (hlen : zn.toNatClampNeg = cs.length) (h0 : 0 < cs.length) (hbig : cs.length ≤ 536870912) (hall : ∀ c ∈ cs, ¬ 255 < c) (hfr : 4 ≤ R.frames) (hlo : W + 65 ≤ R.locals) :
    Back l R p e below s args New1.yN len W (fun P a => a = #[.ref x, .ref b] ∧ P.U.heap = h ∧ P.cells + 1 ≤ R.cells ∧ P.slots + cs.length ≤ R.slots)
      (fun P _ v B => ∃ L, QA Z x zn cs h v B.U.heap L ∧ B.locs = P.locs ++ L ∧ B.cells = P.cells + 1 ∧ B.slots = P.slots + cs.length) := by
  obtain ⟨A, K1, K2, K3, K4, K5, K6⟩ := K
  have e : A.slots.size = cs.length := K3.trans hlen
  have hat : ∀ (i : Nat) (hi : i < cs.length), A.slots[i]? = some (.int cs[i]) := fun i hi => by rw [K5 i (by omega)]; simp [List.getD_eq_getElem?_getD, hi]
  have hcv : ∀ (i : Nat) (hi : i < cs.length), cv A i = cs[i] := fun i hi => by unfold cv; rw [hat i hi]
  have hty : Typed .char A := fun i v hv => by
    have hi : i < A.slots.size := (Array.getElem?_eq_some_iff.mp hv).1
    have q := K5 i hi
    rw [hv] at q
    rw [Option.some.inj q]
    exact K6 i hi
  refine Back.mono (back hZ hw wi E V C K1 hty S hz (by omega) (by omega) (fun i hi => by rw [hcv i (by omega)]; exact hall _ (List.getElem_mem _)) hfr hlo) (fun P a hp => ⟨hp.1, hp.2.1, hp.2.2.1, by rw [e]; exact hp.2.2.2⟩) (fun P a v B hp hq => ?_)
  obtain ⟨L, ⟨q1, q2, q3, q4, q5, q6, q7, ⟨V', v1, v2, v3, v4, v5⟩, q9⟩, hl, hc, hs⟩ := hq
  refine ⟨L, ⟨q1, q2, q3, q4, q5, q6, q7, ⟨V'.cls, v3, V', v1, rfl, by rw [v4, e, hlen], K4, fun i hi => ?_, fun i hi => ?_⟩, q9⟩, hl, hc, by rw [hs, e]⟩
  · have hi' : i < cs.length := by omega
    rw [v5 i (by omega), hcv i hi']; simp [List.getD_eq_getElem?_getD, hi']
  · have hi' : i < cs.length := by omega
    simp only [List.getD_eq_getElem?_getD, List.getElem?_map, List.getElem?_eq_getElem hi', Option.map_some, Option.getD_some]
    exact fits_lo8 _
end StrChars.Road
namespace StrChars.Road
open Jvm Sem ClassFile Op Lib Jvm.Stand Jvm.Free Jvm.Free.XT
/-- WHAT COMES BACK, in the writer's own shape -/
def QV (Z : State) (x : Addr) (N : Int32) (bs : List Int32) (h : Heap) (n0 : Nat) (v : Option Value) (h' : Heap) (L : List Loc) : Prop := v = none ∧ RoadKit.Fr n0 L ∧ RoadKit.Keep h h' [x] ∧ RoadKit.Exa Z h' x ST ∧ RoadKit.Fld Z h' x ST "coder" "B" (.int 0) ∧
  ∃ (t : Addr) (kb : ClassId), n0 ≤ t ∧ h.size ≤ t ∧ ¬ t = x ∧ RoadKit.Fld Z h' x ST "value" "[B" (.ref t) ∧ RoadKit.Arv Z h' t kb .byte N (bs.map Value.int) (.int 0)
/-- **new String(chars) AT A CALL, FOR THE WRITER**: a char[] of n known ints, each 0 to 255 -/
theorem backV {p : Program} {l : Launch} {e : Env} {R : Room} {s : State} {args : Array Value} {below : List Frame} {len W : Nat} {Z : State} {a0 : Array Value} {h : Heap} (hZ : Z.Warmed39 s.vm) (hw : ∀ d ∈ words, d.before a0 Z = true) {kI : Nat} (wi : (Jvm.Cond.instantiable ST kI).before a0 Z = true)
    {x b : Addr} {kC : ClassId} {cs bs : List Int32} {d v0 c0 : Value} {z N : Int32} {n n0 : Nat} (hx0 : n0 ≤ x) (hh0 : n0 ≤ h.size) (E : RoadKit.Exa Z h x ST) (V : RoadKit.Fld Z h x ST "value" "[B" v0) (C : RoadKit.Fld Z h x ST "coder" "B" c0) (K : RoadKit.Arv Z h b kC .char N (cs.map Value.int) d) (S : RoadKit.Sta Z h ST "COMPACT_STRINGS" "Z" (.int z)) (hz : ¬ z = 0)
    (hn : cs.length = n) (hN : N = Int32.ofNat n) (l0 : 0 < n) (l2 : n ≤ 4000) (hp : ∀ c ∈ cs, ¬ c < 0 ∧ ¬ (255 : Int32) < c) (hb : bs = cs.map (fun c => c.toInt8.toInt32)) (hfr : 4 ≤ R.frames) (hlo : W + 65 ≤ R.locals) :
    Back l R p e below s args (⟨"java/lang/String", "<init>", "([C)V"⟩ : MethodName) len W (fun P a => a = #[.ref x, .ref b] ∧ P.U.heap = h ∧ P.cells + 1 ≤ R.cells ∧ P.slots + n ≤ R.slots)
      (fun P _ v B => ∃ L, QV Z x N bs h n0 v B.U.heap L ∧ B.locs = P.locs ++ L ∧ B.cells = P.cells + 1 ∧ B.slots = P.slots + n) := by
  subst hn hN hb
  refine Back.mono (backArv hZ hw wi E V C K S hz (n32 (by omega)) l0 (by omega) (fun c hc => (hp c hc).2) hfr hlo) (fun P a hp => hp) (fun P a v B hp hq => ?_)
  obtain ⟨L, ⟨q1, q2, q3, q4, q5, q6, q7, ⟨kb, v1, v2⟩, q9⟩, hl, hc, hs⟩ := hq
  exact ⟨L, ⟨q1, fun y hy => by rw [q2 y hy]; exact hx0, q3, q5, q7, h.size, kb, hh0, Nat.le_refl _, Nat.ne_of_gt E.lt, q6, by rw [List.map_map]; exact v2⟩, hl, hc, hs⟩
end StrChars.Road
namespace StrChars
open Jvm Sem ClassFile Op Lib Jvm.Stand Jvm.Free.XT Jvm.Free.ALB Jvm.Free.JM Jvm.Free
open Jvm.Lib.Cold (StaticIs)
def hi8 (x : Int32) : Int32 := lo8 (x >>> ((8 : Int32) &&& 31))
/-- what StringUTF16.getChar makes of two bytes -/
def pairCh (u v : Int32) : Int32 := (((u &&& 255) <<< ((0 : Int32) &&& 31)) ||| ((v &&& 255) <<< ((8 : Int32) &&& 31))).toUInt32.toUInt16.toUInt32.toInt32
theorem lo8_and (x : Int32) : (lo8 x &&& 255).toBitVec.toNat = x.toBitVec.toNat % 256 := by
  have h : (lo8 x).toBitVec = (x.toBitVec.signExtend 8).signExtend 32 := by rw [lo8, Int8.toBitVec_toInt32, Int32.toBitVec_toInt8]
  rw [Int32.toBitVec_and, BitVec.toNat_and, h]
  have e : ((x.toBitVec.signExtend 8).signExtend 32).toNat % 256 = x.toBitVec.toNat % 256 := by
    rw [BitVec.toNat_signExtend]
    have hlt := x.toBitVec.isLt
    simp only [BitVec.toNat_setWidth, BitVec.toNat_signExtend]
    split <;> split <;> omega
  rw [← e]
  exact Nat.and_two_pow_sub_one_eq_mod _ 8
theorem pair_says {c : Int32} (h0 : ¬ c < 0) (h1 : ¬ 65535 < c) : pairCh (lo8 c) (hi8 c) = c := by
  rw [Int32.lt_iff_toInt_lt] at h0 h1
  have e0 : (0 : Int32).toInt = 0 := rfl
  have e1 : (65535 : Int32).toInt = 65535 := rfl
  have hc : c.toInt = c.toBitVec.toNat := by
    have := c.toBitVec.isLt
    have e : c.toInt = c.toBitVec.toInt := rfl
    rw [e] at h0 h1
    rw [e]
    rw [BitVec.toInt_eq_toNat_cond] at h0 h1 ⊢
    split at h0 <;> split <;> omega
  have hn : c.toBitVec.toNat < 65536 := by omega
  have a1 := lo8_and c
  have a2 : (hi8 c &&& 255).toBitVec.toNat = c.toBitVec.toNat / 256 := by
    rw [hi8, lo8_and]
    have e : ((8 : Int32) &&& 31) = 8 := by decide
    rw [e, Int32.toBitVec_shiftRight]
    have e2 : ((8 : Int32).toBitVec.smod 32) = 8#32 := by decide
    rw [e2, BitVec.sshiftRight_eq', BitVec.toNat_sshiftRight_of_msb_false (by rw [BitVec.msb_eq_false_iff_two_mul_lt]; omega)]
    show c.toBitVec.toNat >>> 8 % 256 = _
    rw [Nat.shiftRight_eq_div_pow]
    omega
  unfold pairCh
  apply Int32.toBitVec_inj.mp
  apply BitVec.eq_of_toNat_eq
  have f0 : ((0 : Int32) &&& 31) = 0 := by decide
  have f8 : ((8 : Int32) &&& 31) = 8 := by decide
  rw [f0, f8]
  have g : (((lo8 c &&& 255) <<< (0 : Int32)) ||| ((hi8 c &&& 255) <<< (8 : Int32))).toBitVec.toNat = c.toBitVec.toNat := by
    rw [Int32.toBitVec_or, Int32.toBitVec_shiftLeft, Int32.toBitVec_shiftLeft]
    have s0 : ((0 : Int32).toBitVec.smod 32) = 0#32 := by decide
    have s8 : ((8 : Int32).toBitVec.smod 32) = 8#32 := by decide
    rw [s0, s8, BitVec.toNat_or]
    simp only [BitVec.shiftLeft_eq', BitVec.toNat_shiftLeft, a1, a2]
    show (c.toBitVec.toNat % 256) <<< 0 % 2 ^ 32 ||| (c.toBitVec.toNat / 256) <<< 8 % 2 ^ 32 = _
    rw [Nat.shiftLeft_zero, Nat.mod_eq_of_lt (show c.toBitVec.toNat % 256 < 2 ^ 32 by omega), Nat.mod_eq_of_lt (show (c.toBitVec.toNat / 256) <<< 8 < 2 ^ 32 by rw [Nat.shiftLeft_eq]; omega), Nat.or_comm, ← Nat.shiftLeft_add_eq_or_of_lt (by omega), Nat.shiftLeft_eq]
    omega
  show BitVec.toNat (((((lo8 c &&& 255) <<< (0 : Int32)) ||| ((hi8 c &&& 255) <<< (8 : Int32))).toBitVec.setWidth 16).setWidth 32) = _
  rw [BitVec.toNat_setWidth, BitVec.toNat_setWidth, g]
  omega
end StrChars
namespace StrChars
open Jvm Sem ClassFile Op Lib Jvm.Stand Jvm.Free.XT Jvm.Free.ALB Jvm.Free.JM Jvm.Free
open Jvm.Lib.Cold (StaticIs)
/-- the array's cell V codes the n chars f 0 .. f (n - 1) by the coder cd, as the JDK does: coder 1 just where some char is above 255 -/
def Cod (cd : Int32) (n : Nat) (f : Nat → Int32) (V : Cell) : Prop := (cd = 0 ∧ V.slots.size = n ∧ ∀ j, j < n → V.slots[j]? = some (.int (lo8 (f j))) ∧ ¬ 255 < f j) ∨ (cd = 1 ∧ V.slots.size = 2 * n ∧ (∀ j, j < n → V.slots[2 * j]? = some (.int (lo8 (f j))) ∧ V.slots[2 * j + 1]? = some (.int (hi8 (f j)))) ∧ ∃ j, j < n ∧ 255 < f j)
/-- **x is a String of the n chars f 0 .. f (n - 1)**, Latin-1 or UTF-16; its array at t has the cell V -/
def Txt (x t : Addr) (V : Cell) (cd : Int32) (n : Nat) (f : Nat → Int32) (U : State) : Prop := Exact "java/lang/String" x U ∧ Has x "java/lang/String" "value" "[B" (.ref t) U ∧ Has x "java/lang/String" "coder" "B" (.int cd) U ∧ XT.Arr .byte t V U ∧ Cod cd n f V ∧ ∀ j, j < n → ¬ f j < 0 ∧ ¬ 65535 < f j
theorem Txt.mv {x t : Addr} {V : Cell} {cd : Int32} {n : Nat} {f : Nat → Int32} {U U' : State} (h : Txt x t V cd n f U) (hal : U.vm.Alike U'.vm) (hh : U'.heap = U.heap) : Txt x t V cd n f U' := ⟨h.1.mv hal hh, h.2.1.mv hal hh, h.2.2.1.mv hal hh, h.2.2.2.1.mv hal hh, h.2.2.2.2⟩
end StrChars
namespace StrChars.Road
open Jvm Sem ClassFile Op Lib Jvm.Stand Jvm.Free Jvm.Free.XT
open Jvm.Lib.Cold (StaticIs)
theorem consq {a : Array Value} {s : State} {c : Jvm.Cond} {L : List Jvm.Cond} (h0 : c.before a s = true) (h : ∀ w ∈ L, w.before a s = true) : ∀ w ∈ c :: L, w.before a s = true := fun w hw => (List.mem_cons.mp hw).elim (fun e => e ▸ h0) (h w)
/-- the bytes of the chars cs, low before high -/
def wideBytes : List Int32 → List Value
  | [] => []
  | c :: cs => .int (lo8 c) :: .int (hi8 c) :: wideBytes cs
theorem wide_lo (d : Value) : ∀ (cs : List Int32) (j : Nat), j < cs.length → (wideBytes cs).getD (2 * j) d = .int (lo8 (cs.getD j 0))
  | [], j, h => absurd h (Nat.not_lt_zero j)
  | c :: cs, 0, _ => rfl
  | c :: cs, j + 1, h => by
    have q := wide_lo d cs j (by simpa using h)
    rw [show 2 * (j + 1) = 2 * j + 1 + 1 from by omega]
    simpa [wideBytes] using q
theorem wide_hi (d : Value) : ∀ (cs : List Int32) (j : Nat), j < cs.length → (wideBytes cs).getD (2 * j + 1) d = .int (hi8 (cs.getD j 0))
  | [], j, h => absurd h (Nat.not_lt_zero j)
  | c :: cs, 0, _ => rfl
  | c :: cs, j + 1, h => by
    have q := wide_hi d cs j (by simpa using h)
    rw [show 2 * (j + 1) + 1 = 2 * j + 1 + 1 + 1 from by omega]
    simpa [wideBytes] using q
theorem low_at (d : Value) (cs : List Int32) (j : Nat) (h : j < cs.length) : (cs.map fun c => Value.int (lo8 c)).getD j d = .int (lo8 (cs.getD j 0)) := by
  simp [List.getD_eq_getElem?_getD, h]
/-- an array of N2 bytes vs codes the chars cs by the coder cd -/
def CodA (cs : List Int32) (cd N2 : Int32) (vs : List Value) : Prop := (cd = 0 ∧ N2 = Int32.ofNat cs.length ∧ vs = (cs.map fun c => Value.int (lo8 c)) ∧ ∀ c ∈ cs, ¬ 255 < c) ∨ (cd = 1 ∧ N2 = Int32.ofNat (2 * cs.length) ∧ vs = wideBytes cs ∧ ∃ c ∈ cs, 255 < c)
theorem CodA.cod {cs : List Int32} {cd N2 : Int32} {vs : List Value} {V : Cell} (h : CodA cs cd N2 vs) (hn : 2 * cs.length < 2 ^ 31) (hs : V.slots.size = N2.toNatClampNeg) (hv : RoadKit.Has V vs (.int 0)) : Cod cd cs.length (fun j => cs.getD j 0) V := by
  rcases h with ⟨rfl, rfl, rfl, h⟩ | ⟨rfl, rfl, rfl, c, hc, hw⟩
  · rw [n32 (by omega)] at hs
    exact Or.inl ⟨rfl, hs, fun j hj => ⟨by rw [hv j (by omega), low_at _ _ _ hj], by
      have e : cs.getD j 0 = cs[j] := by simp [List.getD_eq_getElem?_getD, hj]
      show ¬ 255 < cs.getD j 0
      rw [e]; exact h _ (List.getElem_mem _)⟩⟩
  · rw [n32 (by omega)] at hs
    obtain ⟨j, hj, rfl⟩ := List.getElem_of_mem hc
    exact Or.inr ⟨rfl, hs, fun j hj => ⟨by rw [hv _ (by omega), wide_lo _ _ _ hj], by rw [hv _ (by omega), wide_hi _ _ _ hj]⟩, j, hj, by
      have e : cs.getD j 0 = cs[j] := by simp [List.getD_eq_getElem?_getD, hj]
      show 255 < cs.getD j 0
      rw [e]; exact hw⟩
/-- an object of exactly java/lang/String, its two fields found: as the laws ask it -/
theorem strObj {Z U : State} {a0 : Array Value} {kI : Nat} (wi : (Jvm.Cond.instantiable ST kI).before a0 Z = true) (al : Z.vm.Alike U.vm) {x : Addr} {v0 c0 : Value} (E : RoadKit.Exa Z U.heap x ST) (V : RoadKit.Fld Z U.heap x ST "value" "[B" v0) (C : RoadKit.Fld Z U.heap x ST "coder" "B" c0) :
    ∃ (D : Cell) (fV fC : Field), Blank ST x D U ∧ Found ST "value" "[B" fV U ∧ Found ST "coder" "B" fC U ∧ D.slots[fV.slot]? = some v0 ∧ D.slots[fC.slot]? = some c0 ∧ RoadKit.slotOf Z ST "value" "[B" = fV.slot ∧ RoadKit.slotOf Z ST "coder" "B" = fC.slot := by
  obtain ⟨D, cfV, kV, iV, fV, hD, gV, stV, knV, obV, asV, slV⟩ := V
  obtain ⟨D', cfC, kC, iC, fC, hD', gC, stC, -, -, asC, slC⟩ := C
  cases hD.symm.trans hD'
  obtain ⟨D2, kD, e1, e2, e3, e4, e5⟩ := E
  cases hD.symm.trans e1
  obtain ⟨c2, k2, i1, i2, i3, -⟩ := Cond.instantiable_spec wi
  cases e2.symm.trans i1
  cases e3.symm.trans i2
  obtain ⟨kU, u1, u2⟩ := al.2.2 _ _ e3
  exact ⟨D, fV, fC, ⟨hD, ⟨knV, fun q hq => by rw [hq] at obV; cases obV⟩, by rw [al.findClass]; exact e2, kU, u1, by rw [u2]; exact i3, by rw [u2]; exact e5 i3⟩, ⟨SBG.found_only al ⟨cfV, kV, iV, gV⟩, stV⟩, ⟨SBG.found_only al ⟨cfC, kC, iC, gC⟩, stC⟩, slV, slC, by simp [RoadKit.slotOf, gV], by simp [RoadKit.slotOf, gC]⟩
theorem sta_is {Z U : State} (al : Z.vm.Alike U.vm) {C n d : String} {v : Value} (S : RoadKit.Sta Z U.heap C n d v) : StaticIs U C n d v := by
  obtain ⟨cfS, iS, kS, fS, st, cS, t1, t2, t3, t4, t5, t6, t7⟩ := S
  exact StaticIs.there (s := { Z with heap := U.heap }) ⟨cfS, iS, kS, fS, st, cS, t1, t2, t3, t4, t5, (fun q => by rw [q] at t6; cases t6), t7⟩ al rfl
end StrChars.Road
namespace StrChars
open Jvm Sem ClassFile Op Lib Jvm.Stand Jvm.Free.XT Jvm.Free.ALB Jvm.Free.JM Jvm.Free
open Jvm.Lib.Cold (StaticIs)
/-- what place i of a byte[]'s cell holds -/
def yv (A : Cell) (i : Nat) : Int32 := match A.slots[i]? with | some (.int x) => x | _ => 0
theorem yv_get {a : Addr} {A : Cell} {U : State} (h : XT.Arr .byte a A U) (ht : Typed .byte A) {i : Nat} (hi : i < A.slots.size) : A.slots[i]? = some (.int (yv A i)) := by
  have e := Array.getElem?_eq_getElem hi
  have f := ht i _ e
  unfold yv; rw [e]
  generalize A.slots[i] = v at f
  cases v <;> simp [fits] at f ⊢
/-- the two arrays are equal, place for place -/
def EqC (A B : Cell) : Prop := A.slots.size = B.slots.size ∧ ∀ i, i < A.slots.size → yv A i = yv B i
/-- a boolean that says whether p -/
def Says01 (q : Prop) (r : Option Value) (s u : State) : Prop := ∃ v : Int32, r = some (.int v) ∧ u.heap = s.heap ∧ ((v = 1 ∧ q) ∨ (v = 0 ∧ ¬ q))
theorem Says01.mv {q : Prop} : ∀ r (U U' V V' : State), U'.heap = U.heap → V.vm.Alike V'.vm → V'.heap = V.heap → Says01 q r U V → Says01 q r U' V' :=
  fun r U U' V V' h1 _ h2 ⟨v, a, b, c⟩ => ⟨v, a, by rw [h1, h2]; exact b, c⟩
namespace LEq
def yN : MethodName := ⟨"java/lang/StringLatin1", "equals", "([B[B)Z"⟩
abbrev yB : ByteArray := jdk_43_method_13_code
theorem d0 : decode yB 0 = .ok (.aload_n 0, 1) := by decide +kernel
theorem d1 : decode yB 1 = .ok (.arraylength, 1) := by decide +kernel
theorem d2 : decode yB 2 = .ok (.aload_n 1, 1) := by decide +kernel
theorem d3 : decode yB 3 = .ok (.arraylength, 1) := by decide +kernel
theorem d4 : decode yB 4 = .ok (.if_icmp (.ne) 30, 3) := by decide +kernel
theorem d7 : decode yB 7 = .ok (.iconst 0, 1) := by decide +kernel
theorem d8 : decode yB 8 = .ok (.istore_n 2, 1) := by decide +kernel
theorem d9 : decode yB 9 = .ok (.iload_n 2, 1) := by decide +kernel
theorem d10 : decode yB 10 = .ok (.aload_n 0, 1) := by decide +kernel
theorem d11 : decode yB 11 = .ok (.arraylength, 1) := by decide +kernel
theorem d12 : decode yB 12 = .ok (.if_icmp (.ge) 20, 3) := by decide +kernel
theorem d15 : decode yB 15 = .ok (.aload_n 0, 1) := by decide +kernel
theorem d16 : decode yB 16 = .ok (.iload_n 2, 1) := by decide +kernel
theorem d17 : decode yB 17 = .ok (.baload, 1) := by decide +kernel
theorem d18 : decode yB 18 = .ok (.aload_n 1, 1) := by decide +kernel
theorem d19 : decode yB 19 = .ok (.iload_n 2, 1) := by decide +kernel
theorem d20 : decode yB 20 = .ok (.baload, 1) := by decide +kernel
theorem d21 : decode yB 21 = .ok (.if_icmp (.eq) 5, 3) := by decide +kernel
theorem d24 : decode yB 24 = .ok (.iconst 0, 1) := by decide +kernel
theorem d25 : decode yB 25 = .ok (.ireturn, 1) := by decide +kernel
theorem d26 : decode yB 26 = .ok (.iinc 2 1, 3) := by decide +kernel
theorem d29 : decode yB 29 = .ok (.goto (-20), 3) := by decide +kernel
theorem d32 : decode yB 32 = .ok (.iconst 1, 1) := by decide +kernel
theorem d33 : decode yB 33 = .ok (.ireturn, 1) := by decide +kernel
theorem d34 : decode yB 34 = .ok (.iconst 0, 1) := by decide +kernel
theorem d35 : decode yB 35 = .ok (.ireturn, 1) := by decide +kernel
def site : List Cond := []
def tab : Cond := tabOf yN yB 3 (some .boolean) site
def P (a : Addr) (A : Cell) (b : Addr) (B : Cell) (args : Array Value) (s : State) : Prop := args = #[.ref a, .ref b] ∧ XT.Arr .byte a A s ∧ Typed .byte A ∧ XT.Arr .byte b B s ∧ Typed .byte B
/-- whether two byte[] are equal, place for place -/
theorem law (l : Launch) (a : Addr) (A : Cell) (b : Addr) (B : Cell) : Law l yN 2 2 0 0 yB 3 (some .boolean) site (P a A b B) (Says01 (EqC A B)) [] 0 0 := by
  refine Law.of_walk (plainFor_of_name (by decide +kernel)) (by decide +kernel) (by decide +kernel) (by decide) (fun _ _ h => by rw [h.1]; rfl) (fun _ U U' hal hh h => ⟨h.1, h.2.1.mv hal hh, h.2.2.1, h.2.2.2.1.mv hal hh, h.2.2.2.2⟩) (fun r U U' V V' h1 hal h2 h => Says01.mv r U U' V V' h1 hal h2 h) ?_
  intro p e s m args below meth c s₁ X0 hexec hbytes hml hret hlk hnm hown hh0 W hP
  obtain ⟨rfl, hA, tA, hB, tB⟩ := hP
  have a31 := hA.2.2.2
  have b31 := hB.2.2.2
  have hA0 := hA.mv X0.warmed.alike hh0
  have hB0 := hB.mv X0.warmed.alike hh0
  have c1 : Steps p.tables e below (s₁.setTop (entryFrame m #[.ref a, .ref b] 3)) (s₁.setTop (mkF m 0 #[.val (.ref a), .val (.ref b), .unset] [])) := entry rfl
  have c2 : Steps p.tables e below (s₁.setTop (entryFrame m #[.ref a, .ref b] 3)) (s₁.setTop (mkF m 4 #[.val (.ref a), .val (.ref b), .unset] [.int (Int32.ofNat B.slots.size), .int (Int32.ofNat A.slots.size)])) := c1.trans (by
    refine XS.aloadN X0.here hexec rfl (hb hbytes d0) rfl rfl ?_
    refine X0.alen hexec hA0 rfl rfl (hb hbytes d1) ?_
    refine XS.aloadN X0.here hexec rfl (hb hbytes d2) rfl rfl ?_
    refine X0.alen hexec hB0 rfl rfl (hb hbytes d3) ?_
    exact Steps.refl _)
  by_cases hs : A.slots.size = B.slots.size
  · have c3 : Steps p.tables e below (s₁.setTop (entryFrame m #[.ref a, .ref b] 3)) (s₁.setTop (mkF m 9 #[.val (.ref a), .val (.ref b), .val (.int 0)] [])) := c2.trans (by
      refine XS.icmpNo X0.here hexec rfl (hb hbytes d4) rfl (ii_ne_f (by rw [hs])) ?_
      refine iconstV X0.here hexec rfl 0 (hb hbytes d7) (by decide) ?_
      refine XS.istoreN X0.here hexec rfl (hb hbytes d8) rfl rfl ?_
      exact Steps.refl _)
    have loop : ∀ (r i : Nat), i + r = A.slots.size → (∀ j, j < i → yv A j = yv B j) → Steps p.tables e below (s₁.setTop (entryFrame m #[.ref a, .ref b] 3)) (s₁.setTop (mkF m 9 #[.val (.ref a), .val (.ref b), .val (.int (Int32.ofNat i))] [])) → ∃ (pc : Nat) (Ls : Array Slot) (v : Int32), (pc = 25 ∨ pc = 33) ∧ ((v = 1 ∧ EqC A B) ∨ (v = 0 ∧ ¬ EqC A B)) ∧ Steps p.tables e below (s₁.setTop (entryFrame m #[.ref a, .ref b] 3)) (s₁.setTop (mkF m pc Ls [.int v])) := by
      intro r
      induction r with
      | zero =>
        intro i hi he cl
        exact ⟨33, _, 1, Or.inr rfl, Or.inl ⟨rfl, hs, fun j hj => he j (by omega)⟩, cl.trans (by
          refine XS.iloadN X0.here hexec rfl (hb hbytes d9) rfl ?_
          refine XS.aloadN X0.here hexec rfl (hb hbytes d10) rfl rfl ?_
          refine X0.alen hexec hA0 rfl rfl (hb hbytes d11) ?_
          refine XS.icmpYes X0.here hexec rfl (pc0 := 12) rfl (hb hbytes d12) rfl (ii_ge_t (nlt32 (by omega) (by omega))) (by decide) rfl ?_
          refine iconstV X0.here hexec rfl 1 (hb hbytes d32) (by decide) ?_
          exact Steps.refl _)⟩
      | succ r ih =>
        intro i hi he cl
        have c4 : Steps p.tables e below (s₁.setTop (entryFrame m #[.ref a, .ref b] 3)) (s₁.setTop (mkF m 21 #[.val (.ref a), .val (.ref b), .val (.int (Int32.ofNat i))] [.int (yv B i), .int (yv A i)])) := cl.trans (by
          refine XS.iloadN X0.here hexec rfl (hb hbytes d9) rfl ?_
          refine XS.aloadN X0.here hexec rfl (hb hbytes d10) rfl rfl ?_
          refine X0.alen hexec hA0 rfl rfl (hb hbytes d11) ?_
          refine XS.icmpNo X0.here hexec rfl (hb hbytes d12) rfl (ii_ge_f (lt32 (by omega) (by omega))) ?_
          refine XS.aloadN X0.here hexec rfl (hb hbytes d15) rfl rfl ?_
          refine XS.iloadN X0.here hexec rfl (hb hbytes d16) rfl ?_
          refine X0.aget hexec hA0 rfl (yv_get hA tA (i := i) (by omega)) rfl rfl (hb hbytes d17) ?_
          refine XS.aloadN X0.here hexec rfl (hb hbytes d18) rfl rfl ?_
          refine XS.iloadN X0.here hexec rfl (hb hbytes d19) rfl ?_
          refine X0.aget hexec hB0 rfl (yv_get hB tB (i := i) (by omega)) rfl rfl (hb hbytes d20) ?_
          exact Steps.refl _)
        by_cases hv : yv A i = yv B i
        · have c5 : Steps p.tables e below (s₁.setTop (entryFrame m #[.ref a, .ref b] 3)) (s₁.setTop (mkF m 9 #[.val (.ref a), .val (.ref b), .val (.int (Int32.ofNat i + 1))] [])) := c4.trans (by
            refine XS.icmpYes X0.here hexec rfl (pc0 := 21) rfl (hb hbytes d21) rfl (ii_eq_t hv) (by decide) rfl ?_
            refine iincV X0.here hexec rfl 1 (hb hbytes d26) (by decide) rfl rfl ?_
            refine XS.goto X0.here hexec rfl (pc0 := 29) rfl (hb hbytes d29) (by decide) rfl ?_
            exact Steps.refl _)
          rw [succ32] at c5
          exact ih (i + 1) (by omega) (fun j hj => by
            by_cases e : j = i
            · rw [e]; exact hv
            · exact he j (by omega)) c5
        · exact ⟨25, _, 0, Or.inl rfl, Or.inr ⟨rfl, fun q => hv (q.2 i (by omega))⟩, c4.trans (by
            refine XS.icmpNo X0.here hexec rfl (hb hbytes d21) rfl (ii_eq_f hv) ?_
            refine iconstV X0.here hexec rfl 0 (hb hbytes d24) (by decide) ?_
            exact Steps.refl _)⟩
    obtain ⟨pc, Ls, v, hpc, hv, cz⟩ := loop A.slots.size 0 (by omega) (fun j hj => absurd hj (Nat.not_lt_zero j)) c3
    have nv : narrow .boolean (.int v) = .int v := by rcases hv with ⟨rfl, -⟩ | ⟨rfl, -⟩ <;> rfl
    rcases hpc with rfl | rfl
    · exact ⟨s₁, some (.int v), _, _, _, X0, rfl, rfl, rfl, (fun h => by cases h), ⟨v, rfl, hh0, hv⟩, fun fs hl => cz.trans (X0.ireturnOut hexec hret nv (Or.inr (Or.inl rfl)) (hb hbytes d25) hl)⟩
    · exact ⟨s₁, some (.int v), _, _, _, X0, rfl, rfl, rfl, (fun h => by cases h), ⟨v, rfl, hh0, hv⟩, fun fs hl => cz.trans (X0.ireturnOut hexec hret nv (Or.inr (Or.inl rfl)) (hb hbytes d33) hl)⟩
  · have c3 : Steps p.tables e below (s₁.setTop (entryFrame m #[.ref a, .ref b] 3)) (s₁.setTop (mkF m 35 #[.val (.ref a), .val (.ref b), .unset] [.int 0])) := c2.trans (by
      refine XS.icmpYes X0.here hexec rfl (pc0 := 4) rfl (hb hbytes d4) rfl (ii_ne_t (ne32 a31 b31 hs)) (by decide) rfl ?_
      refine iconstV X0.here hexec rfl 0 (hb hbytes d34) (by decide) ?_
      exact Steps.refl _)
    exact ⟨s₁, some (.int 0), _, _, _, X0, rfl, rfl, rfl, (fun h => by cases h), ⟨0, rfl, hh0, Or.inr ⟨rfl, fun q => hs q.1⟩⟩, fun fs hl => c3.trans (X0.ireturnOut hexec hret rfl (Or.inr (Or.inl rfl)) (hb hbytes d35) hl)⟩
end LEq
theorem Cod.ty {cd : Int32} {n : Nat} {f : Nat → Int32} {V : Cell} (h : Cod cd n f V) : Typed .byte V := fun i v hv => by
  have hi : i < V.slots.size := (Array.getElem?_eq_some_iff.mp hv).1
  rcases h with ⟨-, k1, k2⟩ | ⟨-, k1, k2, -⟩
  · rw [(k2 i (by omega)).1] at hv; cases hv; exact fits_lo8 _
  · rcases Nat.mod_two_eq_zero_or_one i with e | e
    · obtain ⟨j, rfl⟩ : ∃ j, i = 2 * j := ⟨i / 2, by omega⟩
      rw [(k2 j (by omega)).1] at hv; cases hv; exact fits_lo8 _
    · obtain ⟨j, rfl⟩ : ∃ j, i = 2 * j + 1 := ⟨i / 2, by omega⟩
      rw [(k2 j (by omega)).2] at hv; cases hv; exact fits_lo8 _
/-- the same text -/
def SameT (n : Nat) (f : Nat → Int32) (k : Nat) (g : Nat → Int32) : Prop := n = k ∧ ∀ j, j < n → f j = g j
theorem lo8_inj {x y : Int32} (h0 : ¬ x < 0) (h1 : ¬ 255 < x) (k0 : ¬ y < 0) (k1 : ¬ 255 < y) (h : lo8 x = lo8 y) : x = y := by
  rw [← lo8_mask h0 h1, ← lo8_mask k0 k1, h]
/-- arrays coded by one coder are equal just where the texts are -/
theorem Cod.eqv {cd : Int32} {n k : Nat} {f g : Nat → Int32} {V V' : Cell} (h : Cod cd n f V) (h' : Cod cd k g V') (hf : ∀ j, j < n → ¬ f j < 0 ∧ ¬ 65535 < f j) (hg : ∀ j, j < k → ¬ g j < 0 ∧ ¬ 65535 < g j) : EqC V V' ↔ SameT n f k g := by
  have yvv : ∀ {W : Cell} {i : Nat} {x : Int32}, W.slots[i]? = some (.int x) → yv W i = x := fun q => by unfold yv; rw [q]
  rcases h with ⟨rfl, k1, k2⟩ | ⟨rfl, k1, k2, -⟩
  · rcases h' with ⟨-, m1, m2⟩ | ⟨e, -⟩
    · constructor
      · rintro ⟨e1, e2⟩
        refine ⟨by omega, fun j hj => ?_⟩
        have q := e2 j (by omega)
        rw [yvv (k2 j hj).1, yvv (m2 j (by omega)).1] at q
        exact lo8_inj (hf j hj).1 (k2 j hj).2 (hg j (by omega)).1 (m2 j (by omega)).2 q
      · rintro ⟨rfl, e2⟩
        refine ⟨by omega, fun j hj => ?_⟩
        rw [yvv (k2 j (by omega)).1, yvv (m2 j (by omega)).1, e2 j (by omega)]
    · exact absurd e (by decide)
  · rcases h' with ⟨e, -⟩ | ⟨-, m1, m2, -⟩
    · exact absurd e (by decide)
    · constructor
      · rintro ⟨e1, e2⟩
        refine ⟨by omega, fun j hj => ?_⟩
        have q1 := e2 (2 * j) (by omega)
        have q2 := e2 (2 * j + 1) (by omega)
        rw [yvv (k2 j hj).1, yvv (m2 j (by omega)).1] at q1
        rw [yvv (k2 j hj).2, yvv (m2 j (by omega)).2] at q2
        rw [← pair_says (hf j hj).1 (hf j hj).2, ← pair_says (hg j (by omega)).1 (hg j (by omega)).2, q1, q2]
      · rintro ⟨rfl, e2⟩
        refine ⟨by omega, fun i hi => ?_⟩
        rcases Nat.mod_two_eq_zero_or_one i with e | e
        · obtain ⟨j, rfl⟩ : ∃ j, i = 2 * j := ⟨i / 2, by omega⟩
          rw [yvv (k2 j (by omega)).1, yvv (m2 j (by omega)).1, e2 j (by omega)]
        · obtain ⟨j, rfl⟩ : ∃ j, i = 2 * j + 1 := ⟨i / 2, by omega⟩
          rw [yvv (k2 j (by omega)).2, yvv (m2 j (by omega)).2, e2 j (by omega)]
/-- two codings differ: so do the texts -/
theorem Cod.dif {cd cd' : Int32} {n k : Nat} {f g : Nat → Int32} {V V' : Cell} (h : Cod cd n f V) (h' : Cod cd' k g V') (hne : ¬ cd = cd') : ¬ SameT n f k g := by
  rintro ⟨rfl, e⟩
  rcases h with ⟨rfl, -, k2⟩ | ⟨rfl, -, -, j, hj, hw⟩
  · rcases h' with ⟨rfl, -⟩ | ⟨-, -, -, j, hj, hw⟩
    · exact hne rfl
    · exact (k2 j hj).2 (by rw [e j hj]; exact hw)
  · rcases h' with ⟨-, -, m2⟩ | ⟨rfl, -⟩
    · exact (m2 j hj).2 (by rw [← e j hj]; exact hw)
    · exact hne rfl
/-- an object of exactly C is an instance of C -/
theorem cinst {p : Program} {l : Launch} {e : Env} {R : Room} {s : State} {m : MethodId} {args : Array Value} {below : List Frame} {meth : Method} {c : Code} {T : State} {locs : List Loc} {cells slots : Nat} (X : Stand p l e R s m args below meth c T locs cells slots) (hexec : p.tables.exec = Jvm.exec) {own C : String} {index : Nat} (hown : s.vm.findClass own = some m.cls) (hlink : (Cond.classLink own index C).before args s = true) {a : Addr} (hE : Exact C a T)
    {g : JFrame} (hg : g.method = m) {rest : List Value} (hstack : g.stack = .ref a :: rest) (hdg : decode c.code g.pc = .ok (.instanceof index, 3)) :
    ∃ T', Stand p l e R s m args below meth c T' locs cells slots ∧ T'.heap = T.heap ∧ ∀ target, Steps p.tables e below (T'.setTop { g with pc := g.pc + 3, stack := .int 1 :: rest }) target → Steps p.tables e below (T.setTop g) target := by
  obtain ⟨cB, h1, D, h2, h3, h4⟩ := hE
  have h1' : s.vm.findClass C = some cB := by rw [← X.warmed.alike.findClass]; exact h1
  obtain ⟨vm', X', st⟩ := X.instanceofYes hexec hown hlink h2 h4 h1' (by rw [h3]; exact Jvm.Free.SB.assignable_self _ _) hg hstack hdg
  exact ⟨_, X', rfl, st⟩
theorem cself {p : Program} {l : Launch} {e : Env} {R : Room} {s : State} {m : MethodId} {args : Array Value} {below : List Frame} {meth : Method} {c : Code} {T : State} {locs : List Loc} {cells slots : Nat} (X : Stand p l e R s m args below meth c T locs cells slots) (hexec : p.tables.exec = Jvm.exec) {own C : String} {index : Nat} (hown : s.vm.findClass own = some m.cls) (hlink : (Cond.classLink own index C).before args s = true) {a : Addr} (hE : Exact C a T)
    {g : JFrame} (hg : g.method = m) {rest : List Value} (hstack : g.stack = .ref a :: rest) (hdg : decode c.code g.pc = .ok (.checkcast index, 3)) :
    ∃ T', Stand p l e R s m args below meth c T' locs cells slots ∧ T'.heap = T.heap ∧ ∀ target, Steps p.tables e below (T'.setTop { g with pc := g.pc + 3, stack := .ref a :: rest }) target → Steps p.tables e below (T.setTop g) target := by
  obtain ⟨cB, h1, D, h2, h3, h4⟩ := hE
  have h1' : s.vm.findClass C = some cB := by rw [← X.warmed.alike.findClass]; exact h1
  obtain ⟨vm', X', st⟩ := X.checkcastYes hexec hown hlink h2 h4 h1' (by rw [h3]; exact Jvm.Free.SB.assignable_self _ _) hg hstack hdg
  exact ⟨_, X', rfl, fun t h => st t (by rw [← hstack] at h; exact h)⟩
namespace SEq
def yN : MethodName := ⟨"java/lang/String", "equals", "(Ljava/lang/Object;)Z"⟩
abbrev yB : ByteArray := jdk_42_method_66_code
theorem d0 : decode yB 0 = .ok (.aload_n 0, 1) := by decide +kernel
theorem d1 : decode yB 1 = .ok (.aload_n 1, 1) := by decide +kernel
theorem d2 : decode yB 2 = .ok (.if_acmp (.ne) 5, 3) := by decide +kernel
theorem d5 : decode yB 5 = .ok (.iconst 1, 1) := by decide +kernel
theorem d6 : decode yB 6 = .ok (.ireturn, 1) := by decide +kernel
theorem d7 : decode yB 7 = .ok (.aload_n 1, 1) := by decide +kernel
theorem d8 : decode yB 8 = .ok (.instanceof 10, 3) := by decide +kernel
theorem d11 : decode yB 11 = .ok (.ifCond (.eq) 43, 3) := by decide +kernel
theorem d14 : decode yB 14 = .ok (.aload_n 1, 1) := by decide +kernel
theorem d15 : decode yB 15 = .ok (.checkcast 10, 3) := by decide +kernel
theorem d18 : decode yB 18 = .ok (.astore_n 2, 1) := by decide +kernel
theorem d19 : decode yB 19 = .ok (.getstatic 38, 3) := by decide +kernel
theorem d22 : decode yB 22 = .ok (.ifCond (.eq) 14, 3) := by decide +kernel
theorem d25 : decode yB 25 = .ok (.aload_n 0, 1) := by decide +kernel
theorem d26 : decode yB 26 = .ok (.getfield 15, 3) := by decide +kernel
theorem d29 : decode yB 29 = .ok (.aload_n 2, 1) := by decide +kernel
theorem d30 : decode yB 30 = .ok (.getfield 15, 3) := by decide +kernel
theorem d33 : decode yB 33 = .ok (.if_icmp (.ne) 21, 3) := by decide +kernel
theorem d36 : decode yB 36 = .ok (.aload_n 0, 1) := by decide +kernel
theorem d37 : decode yB 37 = .ok (.getfield 9, 3) := by decide +kernel
theorem d40 : decode yB 40 = .ok (.aload_n 2, 1) := by decide +kernel
theorem d41 : decode yB 41 = .ok (.getfield 9, 3) := by decide +kernel
theorem d44 : decode yB 44 = .ok (.invokestatic 541, 3) := by decide +kernel
theorem d47 : decode yB 47 = .ok (.ifCond (.eq) 7, 3) := by decide +kernel
theorem d50 : decode yB 50 = .ok (.iconst 1, 1) := by decide +kernel
theorem d51 : decode yB 51 = .ok (.goto 4, 3) := by decide +kernel
theorem d54 : decode yB 54 = .ok (.iconst 0, 1) := by decide +kernel
theorem d55 : decode yB 55 = .ok (.ireturn, 1) := by decide +kernel
def site : List Cond := [.classLink "java/lang/String" 10 "java/lang/String", .fieldLink "java/lang/String" 38 "java/lang/String" "COMPACT_STRINGS" "Z", .fieldLink "java/lang/String" 15 "java/lang/String" "coder" "B", .fieldLink "java/lang/String" 9 "java/lang/String" "value" "[B", LEq.tab] ++ staticW "java/lang/String" 541 LEq.yN
def tab : Cond := tabOf yN yB 3 (some .boolean) site
def P (x t : Addr) (V : Cell) (cd : Int32) (n : Nat) (f : Nat → Int32) (y t' : Addr) (V' : Cell) (cd' : Int32) (k : Nat) (g : Nat → Int32) (z : Int32) (args : Array Value) (s : State) : Prop := args = #[.ref x, .ref y] ∧ Txt x t V cd n f s ∧ Txt y t' V' cd' k g s ∧ StaticIs s "java/lang/String" "COMPACT_STRINGS" "Z" (.int z) ∧ ¬ z = 0
/-- equals(Object) of two Strings: whether the texts are the same -/
theorem law (l : Launch) (x t : Addr) (V : Cell) (cd : Int32) (n : Nat) (f : Nat → Int32) (y t' : Addr) (V' : Cell) (cd' : Int32) (k : Nat) (g : Nat → Int32) (z : Int32) : Law l yN 2 1 1 14 yB 3 (some .boolean) site (P x t V cd n f y t' V' cd' k g z) (Says01 (SameT n f k g)) [] 0 0 := by
  refine Law.of_walk (plainFor_of_name (by decide +kernel)) (by decide +kernel) (by decide +kernel) (by decide) (fun _ _ h => by rw [h.1]; rfl) (fun _ U U' hal hh h => ⟨h.1, h.2.1.mv hal hh, h.2.2.1.mv hal hh, h.2.2.2.1.there hal hh, h.2.2.2.2⟩) (fun r U U' V V' h1 hal h2 h => Says01.mv r U U' V V' h1 hal h2 h) ?_
  intro p e s m args below meth c s₁ X0 hexec hbytes hml hret hlk hnm hown hh0 W hP
  obtain ⟨rfl, hx, hy, s1, hz⟩ := hP
  have c1 : Steps p.tables e below (s₁.setTop (entryFrame m #[.ref x, .ref y] 3)) (s₁.setTop (mkF m 2 #[.val (.ref x), .val (.ref y), .unset] [.ref y, .ref x])) := Steps.trans (entry rfl) (by
    show Steps p.tables e below (s₁.setTop (mkF m 0 #[.val (.ref x), .val (.ref y), .unset] [])) _
    refine XS.aloadN X0.here hexec rfl (hb hbytes d0) rfl rfl ?_
    refine XS.aloadN X0.here hexec rfl (hb hbytes d1) rfl rfl ?_
    exact Steps.refl _)
  by_cases hxy : x = y
  · have c2 : Steps p.tables e below (s₁.setTop (entryFrame m #[.ref x, .ref y] 3)) (s₁.setTop (mkF m 6 #[.val (.ref x), .val (.ref y), .unset] [.int 1])) := c1.trans (by
      refine acmpNo X0.here hexec rfl (hb hbytes d2) rfl rfl rfl (by simp [acmp, hxy]) ?_
      refine iconstV X0.here hexec rfl 1 (hb hbytes d5) (by decide) ?_
      exact Steps.refl _)
    subst hxy
    have ec : cd = cd' := by
      obtain ⟨D, fd, a1, a2, a3⟩ := hx.2.2.1
      obtain ⟨D', fd', b1, b2, b3⟩ := hy.2.2.1
      cases a1.symm.trans b1
      obtain ⟨q1, q2, q3, q4⟩ := a2.1
      obtain ⟨r1, r2, r3, r4⟩ := b2.1
      cases q4.symm.trans r4
      cases a3.symm.trans b3; rfl
    have et : t = t' := by
      obtain ⟨D, fd, a1, a2, a3⟩ := hx.2.1
      obtain ⟨D', fd', b1, b2, b3⟩ := hy.2.1
      cases a1.symm.trans b1
      obtain ⟨q1, q2, q3, q4⟩ := a2.1
      obtain ⟨r1, r2, r3, r4⟩ := b2.1
      cases q4.symm.trans r4
      cases a3.symm.trans b3; rfl
    subst ec et
    have ev : V = V' := by cases hx.2.2.2.1.1.symm.trans hy.2.2.2.1.1; rfl
    subst ev
    have hs : SameT n f k g := (Cod.eqv hx.2.2.2.2.1 hy.2.2.2.2.1 hx.2.2.2.2.2 hy.2.2.2.2.2).mp ⟨rfl, fun _ _ => rfl⟩
    exact ⟨s₁, some (.int 1), _, _, _, X0, rfl, rfl, rfl, (fun h => by cases h), ⟨1, rfl, hh0, Or.inl ⟨rfl, hs⟩⟩, fun fs hl => c2.trans (X0.ireturnOut hexec hret rfl (Or.inr (Or.inl rfl)) (hb hbytes d6) hl)⟩
  · have c2 : Steps p.tables e below (s₁.setTop (entryFrame m #[.ref x, .ref y] 3)) (s₁.setTop (mkF m 8 #[.val (.ref x), .val (.ref y), .unset] [.ref y])) := c1.trans (by
      refine acmpYes X0.here hexec rfl (pc0 := 2) rfl (hb hbytes d2) rfl rfl rfl (by simp [acmp, hxy]) (by decide) rfl ?_
      refine XS.aloadN X0.here hexec rfl (hb hbytes d7) rfl rfl ?_
      exact Steps.refl _)
    obtain ⟨T3, X3, q3, st3⟩ := cinst X0 hexec hown (wk W (.classLink "java/lang/String" 10 "java/lang/String")) (hy.mv X0.warmed.alike hh0).1 (g := (mkF m 8 #[.val (.ref x), .val (.ref y), .unset] [.ref y])) rfl (rest := []) rfl (hb hbytes d8)
    have hh3 := q3.trans hh0
    have c4 : Steps p.tables e below (s₁.setTop (entryFrame m #[.ref x, .ref y] 3)) (T3.setTop (mkF m 15 #[.val (.ref x), .val (.ref y), .unset] [.ref y])) := (c2.trans (st3 _ (Steps.refl _))).trans (by
      refine XS.ifNo X3.here hexec rfl (hb hbytes d11) rfl (i0_eq_f (by decide)) ?_
      refine XS.aloadN X3.here hexec rfl (hb hbytes d14) rfl rfl ?_
      exact Steps.refl _)
    obtain ⟨T5, X5, q5, st5⟩ := cself X3 hexec hown (wk W (.classLink "java/lang/String" 10 "java/lang/String")) (hy.mv X3.warmed.alike hh3).1 (g := (mkF m 15 #[.val (.ref x), .val (.ref y), .unset] [.ref y])) rfl (rest := []) rfl (hb hbytes d15)
    have hh5 := q5.trans hh3
    have c6 : Steps p.tables e below (s₁.setTop (entryFrame m #[.ref x, .ref y] 3)) (T5.setTop (mkF m 19 #[.val (.ref x), .val (.ref y), .val (.ref y)] [])) := (c4.trans (st5 _ (Steps.refl _))).trans (by
      refine XS.astoreN X5.here hexec rfl (hb hbytes d18) rfl rfl rfl ?_
      exact Steps.refl _)
    obtain ⟨T7, X7, q7, st7⟩ := X5.sget hexec hown (wk W (.fieldLink "java/lang/String" 38 "java/lang/String" "COMPACT_STRINGS" "Z")) s1 (fun _ _ h => by rw [hh5]; exact h) (g := (mkF m 19 #[.val (.ref x), .val (.ref y), .val (.ref y)] [])) rfl (hb hbytes d19)
    have hh7 := q7.trans hh5
    have c8 : Steps p.tables e below (s₁.setTop (entryFrame m #[.ref x, .ref y] 3)) (T7.setTop (mkF m 26 #[.val (.ref x), .val (.ref y), .val (.ref y)] [.ref x])) := (c6.trans (st7 _ (Steps.refl _))).trans (by
      refine XS.ifNo X7.here hexec rfl (hb hbytes d22) rfl (i0_eq_f hz) ?_
      refine XS.aloadN X7.here hexec rfl (hb hbytes d25) rfl rfl ?_
      exact Steps.refl _)
    obtain ⟨T9, X9, q9, st9⟩ := X7.hget hexec hown (wk W (.fieldLink "java/lang/String" 15 "java/lang/String" "coder" "B")) (hx.mv X7.warmed.alike hh7).2.2.1 (g := (mkF m 26 #[.val (.ref x), .val (.ref y), .val (.ref y)] [.ref x])) rfl (rest := []) rfl (hb hbytes d26)
    have hh9 := q9.trans hh7
    have c10 : Steps p.tables e below (s₁.setTop (entryFrame m #[.ref x, .ref y] 3)) (T9.setTop (mkF m 30 #[.val (.ref x), .val (.ref y), .val (.ref y)] [.ref y, .int cd])) := (c8.trans (st9 _ (Steps.refl _))).trans (by
      refine XS.aloadN X9.here hexec rfl (hb hbytes d29) rfl rfl ?_
      exact Steps.refl _)
    obtain ⟨T11, X11, q11, st11⟩ := X9.hget hexec hown (wk W (.fieldLink "java/lang/String" 15 "java/lang/String" "coder" "B")) (hy.mv X9.warmed.alike hh9).2.2.1 (g := (mkF m 30 #[.val (.ref x), .val (.ref y), .val (.ref y)] [.ref y, .int cd])) rfl (rest := [.int cd]) rfl (hb hbytes d30)
    have hh11 := q11.trans hh9
    have c12 : Steps p.tables e below (s₁.setTop (entryFrame m #[.ref x, .ref y] 3)) (T11.setTop (mkF m 33 #[.val (.ref x), .val (.ref y), .val (.ref y)] [.int cd', .int cd])) := c10.trans (st11 _ (Steps.refl _))
    by_cases hcd : cd = cd'
    · subst hcd
      have c13 : Steps p.tables e below (s₁.setTop (entryFrame m #[.ref x, .ref y] 3)) (T11.setTop (mkF m 37 #[.val (.ref x), .val (.ref y), .val (.ref y)] [.ref x])) := c12.trans (by
        refine XS.icmpNo X11.here hexec rfl (hb hbytes d33) rfl (ii_ne_f rfl) ?_
        refine XS.aloadN X11.here hexec rfl (hb hbytes d36) rfl rfl ?_
        exact Steps.refl _)
      obtain ⟨T14, X14, q14, st14⟩ := X11.hget hexec hown (wk W (.fieldLink "java/lang/String" 9 "java/lang/String" "value" "[B")) (hx.mv X11.warmed.alike hh11).2.1 (g := (mkF m 37 #[.val (.ref x), .val (.ref y), .val (.ref y)] [.ref x])) rfl (rest := []) rfl (hb hbytes d37)
      have hh14 := q14.trans hh11
      have c15 : Steps p.tables e below (s₁.setTop (entryFrame m #[.ref x, .ref y] 3)) (T14.setTop (mkF m 41 #[.val (.ref x), .val (.ref y), .val (.ref y)] [.ref y, .ref t])) := (c13.trans (st14 _ (Steps.refl _))).trans (by
        refine XS.aloadN X14.here hexec rfl (hb hbytes d40) rfl rfl ?_
        exact Steps.refl _)
      obtain ⟨T16, X16, q16, st16⟩ := X14.hget hexec hown (wk W (.fieldLink "java/lang/String" 9 "java/lang/String" "value" "[B")) (hy.mv X14.warmed.alike hh14).2.1 (g := (mkF m 41 #[.val (.ref x), .val (.ref y), .val (.ref y)] [.ref y, .ref t])) rfl (rest := [.ref t]) rfl (hb hbytes d41)
      have hh16 := q16.trans hh14
      have c17 : Steps p.tables e below (s₁.setTop (entryFrame m #[.ref x, .ref y] 3)) (T16.setTop (mkF m 44 #[.val (.ref x), .val (.ref y), .val (.ref y)] [.ref t', .ref t])) := c15.trans (st16 _ (Steps.refl _))
      obtain ⟨v18, T18, X18, E18, g18⟩ := X16.callS hexec (LEq.law l t V t' V') hown (wks W (staticW "java/lang/String" 541 LEq.yN)) (wk W LEq.tab) (W := 0) (Nat.le_of_ble_eq_true rfl) (Nat.le_of_ble_eq_true rfl) (Nat.le_refl _) (Nat.le_refl _) (g := (mkF m 44 #[.val (.ref x), .val (.ref y), .val (.ref y)] [.ref t', .ref t])) rfl (by rw [hml]; rfl) c17 (argsL := [.ref t, .ref t']) (rest := []) rfl rfl (by show 2 * 0 + 0 ≤ _; decide) (hb hbytes d44) (⟨rfl, hx.2.2.2.1.mv X16.warmed.alike hh16, hx.2.2.2.2.1.ty, hy.2.2.2.1.mv X16.warmed.alike hh16, hy.2.2.2.2.1.ty⟩)
      obtain ⟨v, rfl, q18, hv⟩ := E18
      have iff := Cod.eqv hx.2.2.2.2.1 hy.2.2.2.2.1 hx.2.2.2.2.2 hy.2.2.2.2.2
      rcases hv with ⟨rfl, he⟩ | ⟨rfl, he⟩
      · have c19 : Steps p.tables e below (s₁.setTop (entryFrame m #[.ref x, .ref y] 3)) (T18.setTop (mkF m 55 #[.val (.ref x), .val (.ref y), .val (.ref y)] [.int 1])) := Steps.trans g18 (by
          refine XS.ifNo X18.here hexec rfl (hb hbytes d47) rfl (i0_eq_f (by decide)) ?_
          refine iconstV X18.here hexec rfl 1 (hb hbytes d50) (by decide) ?_
          refine XS.goto X18.here hexec rfl (pc0 := 51) rfl (hb hbytes d51) (by decide) rfl ?_
          exact Steps.refl _)
        exact ⟨T18, some (.int 1), _, _, _, X18, rfl, rfl, rfl, (fun h => by cases h), ⟨1, rfl, q18.trans hh16, Or.inl ⟨rfl, iff.mp he⟩⟩, fun fs hl => c19.trans (X18.ireturnOut hexec hret rfl (Or.inr (Or.inl rfl)) (hb hbytes d55) hl)⟩
      · have c19 : Steps p.tables e below (s₁.setTop (entryFrame m #[.ref x, .ref y] 3)) (T18.setTop (mkF m 55 #[.val (.ref x), .val (.ref y), .val (.ref y)] [.int 0])) := Steps.trans g18 (by
          refine XS.ifYes X18.here hexec rfl (pc0 := 47) rfl (hb hbytes d47) rfl (i0_eq_t rfl) (by decide) rfl ?_
          refine iconstV X18.here hexec rfl 0 (hb hbytes d54) (by decide) ?_
          exact Steps.refl _)
        exact ⟨T18, some (.int 0), _, _, _, X18, rfl, rfl, rfl, (fun h => by cases h), ⟨0, rfl, q18.trans hh16, Or.inr ⟨rfl, fun q => he (iff.mpr q)⟩⟩, fun fs hl => c19.trans (X18.ireturnOut hexec hret rfl (Or.inr (Or.inl rfl)) (hb hbytes d55) hl)⟩
    · have c13 : Steps p.tables e below (s₁.setTop (entryFrame m #[.ref x, .ref y] 3)) (T11.setTop (mkF m 55 #[.val (.ref x), .val (.ref y), .val (.ref y)] [.int 0])) := c12.trans (by
        refine XS.icmpYes X11.here hexec rfl (pc0 := 33) rfl (hb hbytes d33) rfl (ii_ne_t hcd) (by decide) rfl ?_
        refine iconstV X11.here hexec rfl 0 (hb hbytes d54) (by decide) ?_
        exact Steps.refl _)
      exact ⟨T11, some (.int 0), _, _, _, X11, rfl, rfl, rfl, (fun h => by cases h), ⟨0, rfl, hh11, Or.inr ⟨rfl, Cod.dif hx.2.2.2.2.1 hy.2.2.2.2.1 hcd⟩⟩, fun fs hl => c13.trans (X11.ireturnOut hexec hret rfl (Or.inr (Or.inl rfl)) (hb hbytes d55) hl)⟩
theorem pays {l : Launch} {R : Room} {p : Program} {e : Env} {below : List Frame} {s : State} {sargs : Array Value} {len W : Nat} (x t : Addr) (V : Cell) (cd : Int32) (n : Nat) (f : Nat → Int32) (y t' : Addr) (V' : Cell) (cd' : Int32) (k : Nat) (g : Nat → Int32) (z : Int32) (htab : tab.before sargs s = true) (hfr : 2 ≤ R.frames) (hlo : W + 28 ≤ R.locals) :
    Back l R p e below s sargs yN len W (fun A₁ a₁ => A₁.cells + 0 ≤ R.cells ∧ A₁.slots + 0 ≤ R.slots ∧ P x t V cd n f y t' V' cd' k g z a₁ A₁.U) (fun A₁ _ v₁ B₁ => Says01 (SameT n f k g) v₁ A₁.U B₁.U ∧ B₁.locs = A₁.locs ++ [] ∧ B₁.cells = A₁.cells + 0 ∧ B₁.slots = A₁.slots + 0) :=
  (law l x t V cd n f y t' V' cd' k g z).pays htab hfr (by omega)
end SEq
end StrChars
namespace StrChars.Road
open Jvm Sem ClassFile Op Lib Jvm.Stand Jvm.Free Jvm.Free.XT
open Jvm.Lib.Cold (StaticIs)
/-- the words of String.equals(Object) -/
abbrev wordsEq : List Jvm.Cond := [.code SEq.yN SEq.yB 3 (some .boolean), .initialized ST, .classLink ST 10 ST, .fieldLink ST 38 ST "COMPACT_STRINGS" "Z", .fieldLink ST 15 ST "coder" "B", .fieldLink ST 9 ST "value" "[B", .methodLink ST 541 LEq.yN, .static LEq.yN, .code LEq.yN LEq.yB 3 (some .boolean), .initialized "java/lang/StringLatin1"]
theorem tabEq_of {a : Array Value} {s : State} (h : ∀ w ∈ wordsEq, w.before a s = true) : SEq.tab.before a s = true := by
  have hl : LEq.tab.before a s = true := unparts (wk h (.code LEq.yN LEq.yB 3 (some .boolean))) (wks h (.initialized LEq.yN.cls :: LEq.site))
  have q := consq hl h
  exact unparts (wk q (.code SEq.yN SEq.yB 3 (some .boolean))) (wks q (.initialized SEq.yN.cls :: SEq.site))
theorem movedEq {Z s : State} {a0 args : Array Value} (hZ : Z.Warmed39 s.vm) (hw : ∀ d ∈ wordsEq, d.before a0 Z = true) : ∀ d ∈ wordsEq, d.before args s = true := fun d hd => by
  have t : ∀ d ∈ wordsEq, (d.onTables && d.keepsFace) = true := by decide +kernel
  exact RoadKit.mv hZ (hw d hd) (t d hd)
/-- the road's facts of a String, as the laws ask it -/
theorem txt_of {Z U : State} {a0 : Array Value} {kI : Nat} (wi : (Jvm.Cond.instantiable ST kI).before a0 Z = true) (al : Z.vm.Alike U.vm) {x t : Addr} {kb : ClassId} {cs : List Int32} {cd N2 : Int32} {vs : List Value} (E : RoadKit.Exa Z U.heap x ST) (V : RoadKit.Fld Z U.heap x ST "value" "[B" (.ref t)) (C : RoadKit.Fld Z U.heap x ST "coder" "B" (.int cd)) (K : RoadKit.Arv Z U.heap t kb .byte N2 vs (.int 0)) (hc : CodA cs cd N2 vs) (hb : ∀ c ∈ cs, ¬ c < 0 ∧ ¬ (65535 : Int32) < c) (l2 : cs.length ≤ 4000) :
    ∃ A, Txt x t A cd cs.length (fun j => cs.getD j 0) U := by
  obtain ⟨A, K1, K2, K3, K4, K5, K6⟩ := K
  have hcod := hc.cod (by omega) K3 K5
  obtain ⟨D, fV, fC, hB, F1, F2, g1, g2, -, -⟩ := strObj wi al E V C
  exact ⟨A, ⟨_, hB.2.2.1, D, hB.1, rfl, by cases q : D.vm <;> first | rfl | exact absurd q (hB.2.1.2 _)⟩, Has.of hB F1 g1, Has.of hB F2 g2, ⟨K1.1, State.isArrayOf_alike al K1.2.1, K1.2.2, by rcases hcod with ⟨-, q, -⟩ | ⟨-, q, -⟩ <;> omega⟩, hcod, fun j hj => by
    have e : cs.getD j 0 = cs[j] := by simp [List.getD_eq_getElem?_getD, hj]
    show ¬ cs.getD j 0 < 0 ∧ ¬ 65535 < cs.getD j 0
    rw [e]; exact hb _ (List.getElem_mem _)⟩
theorem same_list (cs ds : List Int32) : SameT cs.length (fun j => cs.getD j 0) ds.length (fun j => ds.getD j 0) ↔ cs = ds := by
  constructor
  · rintro ⟨e, q⟩
    refine List.ext_getElem e fun j h1 h2 => ?_
    have := q j h1
    simpa [List.getD_eq_getElem?_getD, h1, h2] using this
  · rintro rfl
    exact ⟨rfl, fun _ _ => rfl⟩
/-- **equals(Object) OF TWO SUCH STRINGS**: 1 just where the chars are the same -/
theorem eqW {p : Program} {l : Launch} {e : Env} {R : Room} {s : State} {args : Array Value} {below : List Frame} {len W : Nat} {Z : State} {a0 : Array Value} {h : Heap} (hZ : Z.Warmed39 s.vm) (hw : ∀ d ∈ wordsEq, d.before a0 Z = true) {kI : Nat} (wi : (Jvm.Cond.instantiable ST kI).before a0 Z = true)
    {x t : Addr} {kb : ClassId} {cs : List Int32} {cd N2 : Int32} {vs : List Value} (E : RoadKit.Exa Z h x ST) (V : RoadKit.Fld Z h x ST "value" "[B" (.ref t)) (C : RoadKit.Fld Z h x ST "coder" "B" (.int cd)) (K : RoadKit.Arv Z h t kb .byte N2 vs (.int 0)) (hc : CodA cs cd N2 vs) (hb : ∀ c ∈ cs, ¬ c < 0 ∧ ¬ (65535 : Int32) < c) (l2 : cs.length ≤ 4000)
    {y t' : Addr} {kb' : ClassId} {ds : List Int32} {cd' N2' : Int32} {vs' : List Value} (E' : RoadKit.Exa Z h y ST) (V' : RoadKit.Fld Z h y ST "value" "[B" (.ref t')) (C' : RoadKit.Fld Z h y ST "coder" "B" (.int cd')) (K' : RoadKit.Arv Z h t' kb' .byte N2' vs' (.int 0)) (hc' : CodA ds cd' N2' vs') (hb' : ∀ c ∈ ds, ¬ c < 0 ∧ ¬ (65535 : Int32) < c) (l2' : ds.length ≤ 4000)
    {z : Int32} (S : RoadKit.Sta Z h ST "COMPACT_STRINGS" "Z" (.int z)) (hz : ¬ z = 0) (hfr : 2 ≤ R.frames) (hlo : W + 28 ≤ R.locals) :
    Back l R p e below s args (⟨"java/lang/String", "equals", "(Ljava/lang/Object;)Z"⟩ : MethodName) len W (fun P a => a = #[.ref x, .ref y] ∧ P.U.heap = h ∧ P.cells + 0 ≤ R.cells ∧ P.slots + 0 ≤ R.slots)
      (fun P _ v B => ∃ L, (((v = some (.int 1) ∧ cs = ds) ∨ (v = some (.int 0) ∧ ¬ cs = ds)) ∧ L = [] ∧ B.U.heap = h) ∧ B.locs = P.locs ++ L ∧ B.cells = P.cells + 0 ∧ B.slots = P.slots + 0) := by
  intro m meth c P g ig mk a X hg hsize hdg hW hn hp'
  obtain ⟨rfl, rfl, r1, r2⟩ := hp'
  have al : Z.vm.Alike P.U.vm := hZ.alike.trans X.warmed.alike
  obtain ⟨A, hx⟩ := txt_of wi al E V C K hc hb l2
  obtain ⟨A', hy⟩ := txt_of wi al E' V' C' K' hc' hb' l2'
  obtain ⟨v, B, X', ⟨⟨w, hv, hh, hq⟩, hl, hk, hs⟩, st⟩ := SEq.pays x t A cd cs.length (fun j => cs.getD j 0) y t' A' cd' ds.length (fun j => ds.getD j 0) z (tabEq_of (movedEq hZ hw)) hfr hlo m meth c P g ig mk _ X hg hsize hdg hW hn ⟨r1, r2, rfl, hx, hy, sta_is al S, hz⟩
  refine ⟨v, B, X', ⟨[], ⟨?_, rfl, hh⟩, hl, hk, hs⟩, st⟩
  rcases hq with ⟨rfl, q⟩ | ⟨rfl, q⟩
  · exact Or.inl ⟨hv, (same_list cs ds).mp q⟩
  · exact Or.inr ⟨hv, fun e => q ((same_list cs ds).mpr e)⟩
end StrChars.Road
namespace StrChars.Road
open Jvm Sem ClassFile Op Lib Jvm.Stand Jvm.Free Jvm.Free.XT
open Jvm.Lib.Cold (StaticIs)
/-- what backV says of its String, as the contracts of this text ask it: cs's low bytes, coder 0 -/
theorem codOf {cs : List Int32} {n : Nat} (hn : cs.length = n) (hb : ∀ c ∈ cs, ¬ 255 < c) : CodA cs 0 (Int32.ofNat n) ((cs.map lo8).map Value.int) := Or.inl ⟨rfl, by rw [hn], by simp [List.map_map, Function.comp_def], hb⟩
end StrChars.Road
end Jvm.Pilot.@@N@@

namespace Jvm.Pilot.@@N@@
open Jvm Jvm.ClassFile Sem Op Lib Jvm.Free Jvm.Stand Jvm.LawKit Jvm.RoadKit Bundle
theorem ow {a0 : Array Value} {Z : State} (hw : ∀ d ∈ tables_1, d.before a0 Z = true) (i : Nat) {d : Jvm.Cond} (q : tables_1[i]? = some d) : d.before a0 Z = true := hw _ (List.mem_of_getElem? q)
theorem own_acEt {x y : Value} (h : x = y) : Jvm.Free.XT.acmp .eq x y = true := by simp [Jvm.Free.XT.acmp, h]
theorem own_acEf {x y : Value} (h : ¬ x = y) : Jvm.Free.XT.acmp .eq x y = false := by simp [Jvm.Free.XT.acmp, h]
theorem own_acNt {x y : Value} (h : ¬ x = y) : Jvm.Free.XT.acmp .ne x y = true := by simp [Jvm.Free.XT.acmp, h]
theorem own_acNf {x y : Value} (h : x = y) : Jvm.Free.XT.acmp .ne x y = false := by simp [Jvm.Free.XT.acmp, h]
theorem own_rem (x y : Int32) : x - (x / y) * y = x % y := by
  apply Int32.toInt_inj.mp
  have h1 := Int32.le_toInt (x % y)
  have h2 := Int32.toInt_lt (x % y)
  have e1 : (x - (x / y) * y).toInt = (x.toInt - (x / y).toInt * y.toInt).bmod (2 ^ 32) := by rw [Int32.toInt_sub, Int32.toInt_mul, Int.sub_bmod_bmod]
  rw [e1, Int32.toInt_div]
  have e2 : (x.toInt - (x.toInt.tdiv y.toInt).bmod (2 ^ 32) * y.toInt).bmod (2 ^ 32) = (x.toInt.tmod y.toInt).bmod (2 ^ 32) := by
    rw [← Int.sub_bmod_bmod, Int.bmod_mul_bmod, Int.sub_bmod_bmod, Int.tmod_def, Int.mul_comm]
  rw [e2, ← Int32.toInt_mod]
  exact Int.bmod_eq_of_le_mul_two (by omega) (by omega)
theorem own_cat {x : Value} (h : x.isRef = true) : x.category = 1 := by rcases ref_cases h with rfl | ⟨a, rfl⟩ <;> rfl
theorem own_nar {x : Value} {C : String} (h : x.isRef = true) : narrow (.object C) x = x := by rcases ref_cases h with rfl | ⟨a, rfl⟩ <;> rfl
theorem own_fit {x : Value} {C : String} (h : x.isRef = true) : fits (.object C) x = true := by rcases ref_cases h with rfl | ⟨a, rfl⟩ <;> rfl
theorem own_pure {Z : State} {h : Heap} {P : Option Value → Prop} : ∀ (v : Option Value) (h' : Heap) (L : List Loc), (Fr Z.heap.size L ∧ Ext Z.heap h' ∧ P v ∧ h = h') → Fr Z.heap.size L ∧ Keep h h' [] := fun v h' L q => ⟨q.1, q.2.2.2 ▸ Keep.refl _ _⟩
section OwnLayer
variable {p : Program} {l : Launch} {e : Env} {R : Room} {s : State} {m : MethodId} {args : Array Value} {below : List Frame} {meth : Method} {c : Code} {Z : State} {EL : List (String × Nat)} {a0 : Array Value} {T : State} {h : Heap} {k n : Nat} {sf : List Addr} {w : Bool}
/-- the tables since the start: wide (w): literals may have been interned; narrow: the Stand's own start -/
def own_rel : Bool → State → Vm → Nat → Prop
  | true, s, v0, k => s.Since v0 k
  | false, s, v0, _ => v0 = s.vm
def own_end : Bool → State → Outcome → State → List Loc → Nat → Nat → Prop
  | true, s, o, t, L, k, n => ReturnedEndW s o t L k n
  | false, s, o, t, L, k, n => FrameEnd s o t L k n
theorem own_alike {vm : Vm} {k0 : Nat} (r : own_rel w s vm k0) : s.vm.Alike vm := by
  cases w
  · cases r; exact Vm.Alike.refl _
  · exact r.1.alike
theorem own_found {vm : Vm} {k0 : Nat} {own : String} {c0 : ClassId} (r : own_rel w s vm k0) (q : s.vm.findClass own = some c0) : (s.setVm vm).vm.findClass own = some c0 := by
  show vm.findClass own = _
  rw [(own_alike r).findClass]; exact q
/-- where a walk stands: the Stand over the start with the tables at hand, the heap, nothing old written, the constants held, sf: cells that no constant stands for -/
def Wk (p : Program) (l : Launch) (e : Env) (R : Room) (s : State) (m : MethodId) (args : Array Value) (below : List Frame) (meth : Method) (c : Code) (Z : State) (EL : List (String × Nat)) (a0 : Array Value) (w : Bool) (T : State) (h : Heap) (k n : Nat) (sf : List Addr) : Prop :=
  EW Z a0 EL ∧ ∃ (vm0 : Vm) (locs : List Loc) (k0 : Nat), Stand p l e R (s.setVm vm0) m args below meth c T locs k n ∧ T.heap = h ∧ own_rel w s vm0 k0 ∧ k0 ≤ h.size ∧ Z.Warmed39 vm0 ∧ Fr Z.heap.size locs ∧ Ext Z.heap h ∧ CHr Z EL s.vm s.heap vm0 h ∧ ∀ x ∈ sf, x < h.size ∧ Safe Z EL vm0 h x
theorem Wk.here (H : Wk p l e R s m args below meth c Z EL a0 w T h k n sf) : At T m c below := by obtain ⟨-, _, _, _, X, -⟩ := H; exact X.here
theorem Wk.old (H : Wk p l e R s m args below meth c Z EL a0 w T h k n sf) : Ext Z.heap h := by obtain ⟨-, _, _, _, -, -, -, -, -, -, O, -⟩ := H; exact O
theorem Wk.more (H : Wk p l e R s m args below meth c Z EL a0 w T h k n sf) {k' n' : Nat} (hk : k ≤ k') (hn : n ≤ n') : Wk p l e R s m args below meth c Z EL a0 w T h k' n' sf := by
  obtain ⟨q, vm0, locs, k0, X, r⟩ := H; exact ⟨q, vm0, locs, k0, X.more hk hn, r⟩
theorem Wk.less (H : Wk p l e R s m args below meth c Z EL a0 w T h k n sf) {sf' : List Addr} (q : ∀ x ∈ sf', x ∈ sf) : Wk p l e R s m args below meth c Z EL a0 w T h k n sf' := by
  obtain ⟨q0, vm0, locs, k0, X, eT, r, hk, hZ, N, O, C, S⟩ := H; exact ⟨q0, vm0, locs, k0, X, eT, r, hk, hZ, N, O, C, fun x hx => S x (q x hx)⟩
def Go (p : Program) (e : Env) (below : List Frame) (Φ : State → Prop) (T : State) (g : JFrame) : Prop := ∃ U, Steps p.tables e below (T.setTop g) U ∧ Φ U
variable {Φ : State → Prop}
theorem Go.of {T' : State} {g g' : JFrame} (st : ∀ t, Steps p.tables e below (T'.setTop g') t → Steps p.tables e below (T.setTop g) t) (K : Go p e below Φ T' g') : Go p e below Φ T g := by
  obtain ⟨U, a, b⟩ := K; exact ⟨U, st U a, b⟩
theorem Go.by {T' : State} {g g' : JFrame} (st : Steps p.tables e below (T.setTop g) (T'.setTop g')) (K : Go p e below Φ T' g') : Go p e below Φ T g := by
  obtain ⟨U, a, b⟩ := K; exact ⟨U, st.trans a, b⟩
theorem Go.eq {g g' : JFrame} (q : g = g') (K : Go p e below Φ T g') : Go p e below Φ T g := q ▸ K
def own_fin (Z : State) (EL : List (String × Nat)) (w : Bool) (s : State) (below : List Frame) (Q : Option Value → Heap → Prop) (kc kn : Nat) (U : State) : Prop :=
  ∃ o, U.status = .running ∧ Ended U below o ∧ ∃ v L, o = .returned v ∧ (Fr Z.heap.size L ∧ Ext Z.heap U.heap ∧ Q v U.heap) ∧ CHr Z EL s.vm s.heap U.vm U.heap ∧ own_end w s o U L kc kn
/-- a method's contract -/
def Ct (l : Launch) (Z : State) (EL : List (String × Nat)) (a0 : Array Value) (w : Bool) (y : MethodName) (bytes : ByteArray) (maxL : Nat) (ret : Option FieldType) (ws : List Jvm.Cond) (rm : Room) (as' : Array Value) (h0 : Heap) (sf : List Addr) (Q : Option Value → Heap → Prop) : Prop :=
  MetFree l y (head1 (Jvm.Cond.code y bytes maxL ret :: ws) rm) (fun a U => a = as' ∧ Z.Warmed39 U.vm ∧ U.heap = h0 ∧ CHv Z EL U.vm h0 ∧ ∀ x ∈ sf, x < h0.size ∧ Safe Z EL U.vm h0 x) (fun _ _ _ _ _ => True)
    (fun _ U o U' => ∃ v L, o = .returned v ∧ (Fr Z.heap.size L ∧ Ext Z.heap U'.heap ∧ Q v U'.heap) ∧ CHr Z EL U.vm U.heap U'.vm U'.heap ∧ own_end w U o U' L rm.cells rm.slots)
theorem own_enter {y : MethodName} {bytes : ByteArray} {maxL : Nat} {ret : Option FieldType} {ws : List Jvm.Cond} {rm : Room} {as' : Array Value} {h0 : Heap} {Q : Option Value → Heap → Prop} (hp : plainFor y = true) (hE : EW Z a0 EL) (O : Ext Z.heap h0)
    (B : ∀ (p : Program) (e : Env) (s : State) (m : MethodId) (below : List Frame) (meth : Method) (c : Code) (s₁ : State), p.tables.exec = Jvm.exec → c.code = bytes → c.maxLocals = maxL → s.vm.findClass y.cls = some m.cls → meth.name = y.name → meth.sig.returnType = ret → meth.locks = false →
      Wk p l e rm s m as' below meth c Z EL a0 w s₁ h0 0 0 sf → Go p e below (own_fin Z EL w s below Q rm.cells rm.slots) s₁ (entryFrame m as' maxL)) :
    Ct l Z EL a0 w y bytes maxL ret ws rm as' h0 sf Q := by
  refine MetFree.of_bodySF hp hisR ?_
  intro p e s m args below meth c s₁ Bd hml0 hP hK
  obtain ⟨rfl, hZ, hh, hC, hS⟩ := hP
  have X0 : Stand p l e rm s m args below meth c s₁ [] 0 0 := Stand.of_body Bd
  have e0 : s₁.heap = h0 := by rw [← hh, Bd.state]; rfl
  obtain ⟨U, st, o, r1, r2, v, L, rfl, r3, r4, r5⟩ := B p e s m below meth c s₁ Bd.exec Bd.bytes hml0 (findClass_of_methodNamed Bd.named) (name_of_methodNamed Bd.named Bd.method).1 Bd.returns Bd.notSynchronized
    ⟨hE, s.vm, [], 0, X0, e0, by cases w; exact rfl; exact (State.WarmedH.refl s).since _, Nat.zero_le _, hZ, Fr.nil _, O, by rw [hh]; exact CHr.refl hC, hS⟩
  exact ⟨U, _, st, r1, r2, v, L, rfl, r3, r4, r5⟩
def own_sw (Z : State) (EL : List (String × Nat)) (sf : List Addr) (h : Heap) (a : Addr) : Prop := a ∈ sf ∨ (∃ C, Exa Z h a C ∧ C ≠ "java/lang/String" ∧ C ≠ "[B") ∨ (∃ cl ty, Arr Z h a cl ty ∧ ty ≠ .byte)
theorem own_sw.safe {vm0 : Vm} {a : Addr} (q : own_sw Z EL sf h a) (hal : Z.vm.Alike vm0) (S : ∀ x ∈ sf, x < h.size ∧ Safe Z EL vm0 h x) : Safe Z EL vm0 h a := by
  rcases q with q | ⟨C, E, h1, h2⟩ | ⟨cl, ty, A, ht⟩
  · exact (S a q).2
  · exact Safe.exa hal E h1 h2
  · exact Safe.arr hal A ht
theorem own_mem {a : Addr} (q : a ∈ sf) : own_sw Z EL sf h a := Or.inl q
theorem own_exa {a : Addr} {C : String} (E : Exa Z h a C) (h1 : C ≠ "java/lang/String" := by decide) (h2 : C ≠ "[B" := by decide) : own_sw Z EL sf h a := Or.inr (Or.inl ⟨C, E, h1, h2⟩)
theorem own_arr {a : Addr} {k0 : ClassId} {ty : FieldType} {z : Int32} {vs : List Value} {d : Value} (V : Arv Z h a k0 ty z vs d) (q : ty ≠ .byte := by decide) : own_sw Z EL sf h a := by
  obtain ⟨cl, A, -⟩ := V; exact Or.inr (Or.inr ⟨cl, ty, A, q⟩)
theorem own_wrote {vm0 : Vm} {locs : List Loc} {k0 : Nat} {T' : State} {h' : Heap} {a : Addr} {sl : Nat} {v : Value} (hE : EW Z a0 EL) (X' : Stand p l e R (s.setVm vm0) m args below meth c T' (locs ++ [⟨a, sl⟩]) k n) (e' : T'.heap = h') (W : Wr h h' a sl v) (r : own_rel w s vm0 k0) (hk : k0 ≤ h.size) (hZ : Z.Warmed39 vm0) (N : Fr Z.heap.size locs) (O : Ext Z.heap h) (C : CHr Z EL s.vm s.heap vm0 h) (S : ∀ x ∈ sf, x < h.size ∧ Safe Z EL vm0 h x) (ha : Z.heap.size ≤ a) (hs : own_sw Z EL sf h a) :
    Wk p l e R s m args below meth c Z EL a0 w T' h' k n sf := by
  have sa := hs.safe hZ.alike S
  have sz := W.size
  exact ⟨hE, vm0, _, k0, X', e', r, by rw [sz]; exact hk, hZ, Fr.snoc X' N ha, (Old.wr ⟨rfl, O⟩ W ha).2, C.trans (CHr.wr W sa C.1), fun x hx => ⟨by rw [sz]; exact (S x hx).1, Safe.wr W sa C.1 (S x hx).2⟩⟩
theorem own_irem (H : Wk p l e R s m args below meth c Z EL a0 w T h k n sf) (hx : p.tables.exec = Jvm.exec) {g : JFrame} (hg : g.method = m) {x y : Int32} {rest : List Value} (hd : decode c.code g.pc = .ok (.irem, 1)) (hs : g.stack = .int y :: .int x :: rest) (hy : y ≠ 0)
    (K : Go p e below Φ T { g with pc := g.pc + 1, stack := .int (x % y) :: rest }) : Go p e below Φ T g := by
  rw [← own_rem] at K
  exact Go.of (fun _ => XS.irem H.here hx hg hd hs hy) K
theorem own_getF (H : Wk p l e R s m args below meth c Z EL a0 w T h k n sf) (hx : p.tables.exec = Jvm.exec) {own R0 O nn d host : String} {index : Nat} (hown : s.vm.findClass own = some m.cls) (wd : (Cond.fieldLink own index R0 nn d).before a0 Z = true ∨ (Cond.fieldLinkNest own index R0 nn d host).before a0 Z = true) (via : Via Z R0 O nn d) {a : Addr} {v : Value} (F : Fld Z h a O nn d v) {g : JFrame} (hg : g.method = m) {rest : List Value} (hs : g.stack = .ref a :: rest) (hd : decode c.code g.pc = .ok (.getfield index, 3))
    (K : ∀ T', Wk p l e R s m args below meth c Z EL a0 w T' h k n sf → Go p e below Φ T' { g with pc := g.pc + 3, stack := v :: rest }) : Go p e below Φ T g := by
  obtain ⟨hE, vm0, locs, k0, X, eT, r, hk, hZ, N, O, C, S⟩ := H
  obtain ⟨T', X', e', st⟩ := getF X hx hZ (own_found r hown) wd via eT F hg hs hd
  exact Go.of st (K T' ⟨hE, vm0, locs, k0, X', e', r, hk, hZ, N, O, C, S⟩)
theorem own_getS (H : Wk p l e R s m args below meth c Z EL a0 w T h k n sf) (hx : p.tables.exec = Jvm.exec) {own R0 O nn d host : String} {index : Nat} (hown : s.vm.findClass own = some m.cls) (wd : (Cond.fieldLink own index R0 nn d).before a0 Z = true ∨ (Cond.fieldLinkNest own index R0 nn d host).before a0 Z = true) (via : Via Z R0 O nn d) {v : Value} (F : Sta Z Z.heap O nn d v) {g : JFrame} (hg : g.method = m) (hd : decode c.code g.pc = .ok (.getstatic index, 3))
    (K : ∀ T', Wk p l e R s m args below meth c Z EL a0 w T' h k n sf → Go p e below Φ T' { g with pc := g.pc + 3, stack := v :: g.stack }) : Go p e below Φ T g := by
  obtain ⟨hE, vm0, locs, k0, X, eT, r, hk, hZ, N, O, C, S⟩ := H
  obtain ⟨T', X', e', st⟩ := getS2 X hx hZ (own_found r hown) wd via eT (F.ext O) hg hd
  exact Go.of st (K T' ⟨hE, vm0, locs, k0, X', e', r, hk, hZ, N, O, C, S⟩)
theorem own_putF (H : Wk p l e R s m args below meth c Z EL a0 w T h k n sf) (hx : p.tables.exec = Jvm.exec) {own R0 O nn d host C : String} {index kk : Nat} {ty : FieldType} (hown : s.vm.findClass own = some m.cls) (wd : (Cond.fieldLink own index R0 nn d).before a0 Z = true ∨ (Cond.fieldLinkNest own index R0 nn d host).before a0 Z = true) (via : Via Z R0 O nn d)
    {a : Addr} {v old : Value} (F : Fld Z h a O nn d old) (E : Exa Z h a C) (L : (Cond.lays C O nn d).before a0 Z = true ∨ ((Cond.laysFinal C O nn d).before a0 Z = true ∧ own = O ∧ meth.name = "<init>")) (wi : (Cond.instantiable C kk).before a0 Z = true)
    (hty : parseFieldDescriptor d = some ty) (hn : narrow ty v = v) (hf : fits ty v = true) (ha : Z.heap.size ≤ a) (hsw : own_sw Z EL sf h a) {g : JFrame} (hg : g.method = m) {rest : List Value} (hs : g.stack = v :: .ref a :: rest) (hd : decode c.code g.pc = .ok (.putfield index, 3))
    (K : ∀ T' h', Wk p l e R s m args below meth c Z EL a0 w T' h' k n sf → Wr h h' a (Jvm.RoadKit.slotOf Z O nn d) v → Go p e below Φ T' { g with pc := g.pc + 3, stack := rest }) : Go p e below Φ T g := by
  obtain ⟨hE, vm0, locs, k0, X, eT, r, hk, hZ, N, Od, C, S⟩ := H
  obtain ⟨T', h', X', e', W, st⟩ := putF X hx hZ (own_found r hown) wd via eT F E L wi hty hn hf hg hs hd
  exact Go.of st (K T' h' (own_wrote hE X' e' W r hk hZ N Od C S ha hsw) W)
theorem own_putFN (H : Wk p l e R s m args below meth c Z EL a0 w T h k n sf) (hx : p.tables.exec = Jvm.exec) {own R0 O nn d C : String} {index kk : Nat} {ty : FieldType} (hown : s.vm.findClass own = some m.cls) (wd : (Cond.fieldLink own index R0 nn d).before a0 Z = true) (via : Via Z R0 O nn d)
    {a : Addr} {v v' old : Value} (F : Fld Z h a O nn d old) (E : Exa Z h a C) (L : (Cond.lays C O nn d).before a0 Z = true ∨ ((Cond.laysFinal C O nn d).before a0 Z = true ∧ own = O ∧ meth.name = "<init>")) (wi : (Cond.instantiable C kk).before a0 Z = true)
    (hty : parseFieldDescriptor d = some ty) (hn : narrow ty v = v') (hf : fits ty v' = true) (ha : Z.heap.size ≤ a) (hsw : own_sw Z EL sf h a) {g : JFrame} (hg : g.method = m) {rest : List Value} (hs : g.stack = v :: .ref a :: rest) (hd : decode c.code g.pc = .ok (.putfield index, 3))
    (K : ∀ T' h', Wk p l e R s m args below meth c Z EL a0 w T' h' k n sf → Wr h h' a (Jvm.RoadKit.slotOf Z O nn d) v' → Go p e below Φ T' { g with pc := g.pc + 3, stack := rest }) : Go p e below Φ T g := by
  obtain ⟨hE, vm0, locs, k0, X, eT, r, hk, hZ, N, Od, C, S⟩ := H
  obtain ⟨T', h', X', e', W, st⟩ := putFN X hx hZ (own_found r hown) wd via eT F E L wi hty hn hf hg hs hd
  exact Go.of st (K T' h' (own_wrote hE X' e' W r hk hZ N Od C S ha hsw) W)
theorem own_grew {vm0 : Vm} {locs : List Loc} {k0 : Nat} {T' : State} {h' : Heap} {k' n' : Nat} (hE : EW Z a0 EL) (X' : Stand p l e R (s.setVm vm0) m args below meth c T' locs k' n') (e' : T'.heap = h') (E : Ext h h') (hlt : h.size < h'.size) (r : own_rel w s vm0 k0) (hk : k0 ≤ h.size) (hZ : Z.Warmed39 vm0) (N : Fr Z.heap.size locs) (O : Ext Z.heap h) (C : CHr Z EL s.vm s.heap vm0 h) (S : ∀ x ∈ sf, x < h.size ∧ Safe Z EL vm0 h x) :
    Wk p l e R s m args below meth c Z EL a0 w T' h' k' n' (h.size :: sf) := by
  refine ⟨hE, vm0, _, k0, X', e', r, Nat.le_trans hk E.1, hZ, N, (Old.ext ⟨rfl, O⟩ E).2, C.trans (CHr.ext E C.1), fun x hx => ?_⟩
  rcases List.mem_cons.mp hx with rfl | hx
  · exact ⟨hlt, (Safe.new (Nat.le_refl _)).ext E C.1⟩
  · exact ⟨Nat.lt_of_lt_of_le (S x hx).1 E.1, (S x hx).2.ext E C.1⟩
theorem own_new (H : Wk p l e R s m args below meth c Z EL a0 w T h k n sf) (hx : p.tables.exec = Jvm.exec) {own C : String} {index nf : Nat} (hown : s.vm.findClass own = some m.cls) (w1 : (Cond.classLink own index C).before a0 Z = true) (wi : (Cond.instantiable C nf).before a0 Z = true) (wz : (Cond.initialized C).before a0 Z = true)
    {g : JFrame} (hg : g.method = m) (hd : decode c.code g.pc = .ok (.new index, 3)) (hc : k + 1 ≤ R.cells) (hl : n + nf ≤ R.slots)
    (K : ∀ T' h' b, b = h.size → Wk p l e R s m args below meth c Z EL a0 w T' h' (k + 1) (n + nf) (b :: sf) → Ext h h' → Exa Z h' b C → (∀ {O nm d : String} {ty : FieldType}, Laid Z a0 C O nm d → parseFieldDescriptor d = some ty → Fld Z h' b O nm d (defaultValue ty)) → Go p e below Φ T' { g with pc := g.pc + 3, stack := .ref b :: g.stack }) : Go p e below Φ T g := by
  obtain ⟨hE, vm0, locs, k0, X, eT, r, hk, hZ, N, O, C, S⟩ := H
  obtain ⟨T', h', X', e', E, A, D, -, st⟩ := newO X hx hZ (own_found r hown) w1 wi wz eT hg hd hc hl
  exact Go.of st (K T' h' _ rfl (own_grew hE X' e' E A.lt r hk hZ N O C S) E A D)
theorem own_newP (H : Wk p l e R s m args below meth c Z EL a0 w T h k n sf) (hx : p.tables.exec = Jvm.exec) {aty : ArrayType} (w1 : (Cond.arrayClass (newarray.typeOf aty)).before a0 Z = true) {g : JFrame} (hg : g.method = m) (hd : decode c.code g.pc = .ok (.newarray aty, 2)) {z : Int32} {rest : List Value} (hs : g.stack = .int z :: rest)
    (hz : ¬ z < 0) {cap : Nat} (hcap : z.toNatClampNeg ≤ cap) (hb : cap * 8 ≤ 536870912) (hc : k + 1 ≤ R.cells) (hl : n + cap ≤ R.slots)
    (K : ∀ T' h' b kA, b = h.size → Wk p l e R s m args below meth c Z EL a0 w T' h' (k + 1) (n + cap) (b :: sf) → Ext h h' → Arv Z h' b kA (newarray.typeOf aty) z [] (defaultValue (newarray.typeOf aty)) → Go p e below Φ T' { g with pc := g.pc + 2, stack := .ref b :: rest }) : Go p e below Φ T g := by
  obtain ⟨hE, vm0, locs, k0, X, eT, r, hk, hZ, N, O, C, S⟩ := H
  obtain ⟨T', h', kA, X', e', E, A, st⟩ := newP X hx hZ w1 eT hg hd hs hz hcap hb hc hl
  exact Go.of st (K T' h' _ kA rfl (own_grew hE X' e' E A.lt r hk hZ N O C S) E (Arv.new A hz))
theorem own_newR (H : Wk p l e R s m args below meth c Z EL a0 w T h k n sf) (hx : p.tables.exec = Jvm.exec) {own C : String} {index : Nat} (hown : s.vm.findClass own = some m.cls) (w1 : (Cond.classLink own index C).before a0 Z = true) (w2 : (Cond.arrayOver (.object C)).before a0 Z = true) {g : JFrame} (hg : g.method = m) (hd : decode c.code g.pc = .ok (.anewarray index, 3)) {z : Int32} {rest : List Value} (hs : g.stack = .int z :: rest)
    (hz : ¬ z < 0) {cap : Nat} (hcap : z.toNatClampNeg ≤ cap) (hb : cap * 8 ≤ 536870912) (hc : k + 1 ≤ R.cells) (hl : n + cap ≤ R.slots)
    (K : ∀ T' h' b kA, b = h.size → Wk p l e R s m args below meth c Z EL a0 w T' h' (k + 1) (n + cap) (b :: sf) → Ext h h' → Arv Z h' b kA (.object C) z [] .null → Ovr Z kA C → Go p e below Φ T' { g with pc := g.pc + 3, stack := .ref b :: rest }) : Go p e below Φ T g := by
  obtain ⟨hE, vm0, locs, k0, X, eT, r, hk, hZ, N, O, C, S⟩ := H
  obtain ⟨T', h', kA, X', e', E, A, Ov, st⟩ := newR X hx hZ (own_found r hown) w1 w2 eT hg hd hs hz hcap hb hc hl
  exact Go.of st (K T' h' _ kA rfl (own_grew hE X' e' E A.lt r hk hZ N O C S) E (Arv.new A hz) Ov)
theorem own_initO (H : Wk p l e R s m args below meth c Z EL a0 w T h k n sf) (hx : p.tables.exec = Jvm.exec) {own : String} {idx : Nat} (hown : s.vm.findClass own = some m.cls) (w1 : (Cond.methodLink own idx Lib.objectInit).before a0 Z = true) (w2 : (Cond.instanceMethod Lib.objectInit).before a0 Z = true)
    (w3 : (Cond.code Lib.objectInit ⟨#[0xb1]⟩ 1 none).before a0 Z = true) {g : JFrame} (hg : g.method = m) (hsize : g.locals.size = c.maxLocals) {a : Addr} {rest : List Value} (hs : g.stack = .ref a :: rest) (hd : decode c.code g.pc = .ok (.invokespecial idx, 3))
    (hf : 1 ≤ R.frames) {W : Nat} (hW : 2 * g.monitorRoom + (rest.map fun v => v.category).sum ≤ W) (hl : W + 12 ≤ R.locals)
    (K : ∀ T', Wk p l e R s m args below meth c Z EL a0 w T' h k n sf → Go p e below Φ T' { g with pc := g.pc + 3, stack := rest }) : Go p e below Φ T g := by
  obtain ⟨hE, vm0, locs, k0, X, eT, r, hk, hZ, N, O, C, S⟩ := H
  obtain ⟨T', X', e', st⟩ := initO X hx hZ (own_found r hown) w1 w2 w3 eT hg hsize hs hd hf hW hl
  exact Go.of st (K T' ⟨hE, vm0, locs, k0, X', e', r, hk, hZ, N, O, C, S⟩)
theorem own_ldcI (H : Wk p l e R s m args below meth c Z EL a0 w T h k n sf) (hx : p.tables.exec = Jvm.exec) {own : String} {index : Nat} {v : Int32} (hown : s.vm.findClass own = some m.cls) (wc : (Cond.constant own index v).before a0 Z = true) {g : JFrame} (hg : g.method = m) (hd : decode c.code g.pc = .ok (.ldc index, 2))
    (K : Go p e below Φ T { g with pc := g.pc + 2, stack := .int v :: g.stack }) : Go p e below Φ T g := by
  obtain ⟨hE, vm0, locs, k0, X, eT, r, hk, hZ, N, O, C, S⟩ := H
  exact Go.of (X.ldcInt hx (own_found r hown) (mvT hZ wc) hg hd) K
theorem own_len (H : Wk p l e R s m args below meth c Z EL a0 w T h k n sf) (hx : p.tables.exec = Jvm.exec) {a : Addr} {kA : ClassId} {ty : FieldType} {z : Int32} {vs : List Value} {d : Value} (V : Arv Z h a kA ty z vs d) {g : JFrame} (hg : g.method = m) {rest : List Value} (hs : g.stack = .ref a :: rest) (hd : decode c.code g.pc = .ok (.arraylength, 1))
    (K : Go p e below Φ T { g with pc := g.pc + 1, stack := .int z :: rest }) : Go p e below Φ T g := by
  obtain ⟨hE, vm0, locs, k0, X, eT, r, hk, hZ, N, O, C, S⟩ := H
  obtain ⟨cl, A, -, q, nz, -, -⟩ := V
  refine Go.of (fun t ht => X.arraylength hx (by rw [eT]; exact A.1) (State.isArrayOf_alike hZ.alike A.2.1) hg hs hd t ?_) K
  rw [len_of q nz]; exact ht
theorem own_ld {op : Instr} {ty : FieldType} (law : ∀ {s T : State} {locs : List Loc} {a : Addr} {cell : Cell} {j : Int32} {v : Value} {k n : Nat} (X : Stand p l e R s m args below meth c T locs k n) (hcell : T.heap[a]? = some cell) (harr : s.isArrayOf cell ty) (hknown : cell.vm ≠ .unknown) (hin : ¬ (j < 0 ∨ cell.slots.size ≤ j.toNatClampNeg)) (hv : cell.slots[j.toNatClampNeg]? = some v) {g : JFrame} (hg : g.method = m) {rest : List Value} (hs : g.stack = .int j :: .ref a :: rest) (hd : decode c.code g.pc = .ok (op, 1)) (target : State), Steps p.tables e below (T.setTop { g with pc := g.pc + 1, stack := v :: rest }) target → Steps p.tables e below (T.setTop g) target)
    (H : Wk p l e R s m args below meth c Z EL a0 w T h k n sf) {a : Addr} {kA : ClassId} {z j : Int32} {vs : List Value} {d v : Value} (V : Arv Z h a kA ty z vs d) (hj : ¬ j < 0 ∧ j < z) (hv : vs.getD j.toNatClampNeg d = v) {g : JFrame} (hg : g.method = m) {rest : List Value} (hs : g.stack = .int j :: .ref a :: rest) (hd : decode c.code g.pc = .ok (op, 1))
    (K : Go p e below Φ T { g with pc := g.pc + 1, stack := v :: rest }) : Go p e below Φ T g := by
  obtain ⟨hE, vm0, locs, k0, X, eT, r, hk, hZ, N, O, C, S⟩ := H
  obtain ⟨cl, A, -, q, nz, Hs, -⟩ := V
  exact Go.of (law X (by rw [eT]; exact A.1) (State.isArrayOf_alike hZ.alike A.2.1) A.2.2 (inb_of q hj) (Hs.at (inb_of q hj) hv) hg hs hd) K
theorem own_caload (H : Wk p l e R s m args below meth c Z EL a0 w T h k n sf) (hx : p.tables.exec = Jvm.exec) {a : Addr} {kA : ClassId} {z j : Int32} {vs : List Value} {d v : Value} (V : Arv Z h a kA .char z vs d) (hj : ¬ j < 0 ∧ j < z) (hv : vs.getD j.toNatClampNeg d = v) {g : JFrame} (hg : g.method = m) {rest : List Value} (hs : g.stack = .int j :: .ref a :: rest) (hd : decode c.code g.pc = .ok (.caload, 1))
    (K : Go p e below Φ T { g with pc := g.pc + 1, stack := v :: rest }) : Go p e below Φ T g := own_ld (fun {_ _ _ _ _ _ _ _ _} X h1 h2 h3 h4 h5 {_} hg {_} hs hd t k => X.caload hx h1 h2 h3 h4 h5 hg hs hd t k) H V hj hv hg hs hd K
theorem own_baload (H : Wk p l e R s m args below meth c Z EL a0 w T h k n sf) (hx : p.tables.exec = Jvm.exec) {a : Addr} {kA : ClassId} {z j : Int32} {vs : List Value} {d v : Value} (V : Arv Z h a kA .byte z vs d) (hj : ¬ j < 0 ∧ j < z) (hv : vs.getD j.toNatClampNeg d = v) {g : JFrame} (hg : g.method = m) {rest : List Value} (hs : g.stack = .int j :: .ref a :: rest) (hd : decode c.code g.pc = .ok (.baload, 1))
    (K : Go p e below Φ T { g with pc := g.pc + 1, stack := v :: rest }) : Go p e below Φ T g := own_ld (fun {_ _ _ _ _ _ _ _ _} X h1 h2 h3 h4 h5 {_} hg {_} hs hd t k => X.baloadBytes hx h1 h2 h3 h4 h5 hg hs hd t k) H V hj hv hg hs hd K
theorem own_aaload (H : Wk p l e R s m args below meth c Z EL a0 w T h k n sf) (hx : p.tables.exec = Jvm.exec) {a : Addr} {kA : ClassId} {ty : FieldType} {z j : Int32} {vs : List Value} {d v : Value} (V : Arv Z h a kA ty z vs d) (hty : ty.isReference = true) (hj : ¬ j < 0 ∧ j < z) (hv : vs.getD j.toNatClampNeg d = v) {g : JFrame} (hg : g.method = m) {rest : List Value} (hs : g.stack = .int j :: .ref a :: rest) (hd : decode c.code g.pc = .ok (.aaload, 1))
    (K : Go p e below Φ T { g with pc := g.pc + 1, stack := v :: rest }) : Go p e below Φ T g := own_ld (fun {_ _ _ _ _ _ _ _ _} X h1 h2 h3 h4 h5 {_} hg {_} hs hd t k => X.aaload hx h1 h2 hty h3 h4 h5 hg hs hd t k) H V hj hv hg hs hd K
theorem own_castore (H : Wk p l e R s m args below meth c Z EL a0 w T h k n sf) (hx : p.tables.exec = Jvm.exec) {a : Addr} {kA : ClassId} {z j x : Int32} {vs : List Value} {d : Value} (V : Arv Z h a kA .char z vs d) (hj : ¬ j < 0 ∧ j < z) (i : Nat) (hi : j.toNatClampNeg = i) (hl : i < vs.length) (ha : Z.heap.size ≤ a) {g : JFrame} (hg : g.method = m) {rest : List Value} (hs : g.stack = .int x :: .int j :: .ref a :: rest) (hd : decode c.code g.pc = .ok (.castore, 1))
    (K : ∀ T' h', Wk p l e R s m args below meth c Z EL a0 w T' h' k n sf → Wr h h' a j.toNatClampNeg (.int (nar .char x)) → Arv Z h' a kA .char z (vs.set i (.int (nar .char x))) d → Go p e below Φ T' { g with pc := g.pc + 1, stack := rest }) : Go p e below Φ T g := by
  have hsw : own_sw Z EL sf h a := own_arr V (by simp)
  obtain ⟨hE, vm0, locs, k0, X, eT, r, hk, hZ, N, O, C, S⟩ := H
  obtain ⟨cl, A, q1, q, nz, Hs, G⟩ := V
  obtain ⟨T', h', X', e', W, st⟩ := stC X hx hZ eT A (inb_of q hj) hg hs hd
  exact Go.of st (K T' h' (own_wrote hE X' e' W r hk hZ N O C S ha hsw) W (Arv.set A q1 q nz Hs G (fits_nar_char _) W i hi hl))
theorem own_bastore (H : Wk p l e R s m args below meth c Z EL a0 w T h k n sf) (hx : p.tables.exec = Jvm.exec) {a : Addr} {kA : ClassId} {z j x : Int32} {vs : List Value} {d : Value} (V : Arv Z h a kA .byte z vs d) (hj : ¬ j < 0 ∧ j < z) (i : Nat) (hi : j.toNatClampNeg = i) (hl : i < vs.length) (ha : Z.heap.size ≤ a) (hsw : own_sw Z EL sf h a) {g : JFrame} (hg : g.method = m) {rest : List Value} (hs : g.stack = .int x :: .int j :: .ref a :: rest) (hd : decode c.code g.pc = .ok (.bastore, 1))
    (K : ∀ T' h', Wk p l e R s m args below meth c Z EL a0 w T' h' k n sf → Wr h h' a j.toNatClampNeg (.int (nar .byte x)) → Arv Z h' a kA .byte z (vs.set i (.int (nar .byte x))) d → Go p e below Φ T' { g with pc := g.pc + 1, stack := rest }) : Go p e below Φ T g := by
  obtain ⟨hE, vm0, locs, k0, X, eT, r, hk, hZ, N, O, C, S⟩ := H
  obtain ⟨cl, A, q1, q, nz, Hs, G⟩ := V
  obtain ⟨T', h', X', e', W, st⟩ := stB X hx hZ eT A (inb_of q hj) hg hs hd
  exact Go.of st (K T' h' (own_wrote hE X' e' W r hk hZ N O C S ha hsw) W (Arv.set A q1 q nz Hs G (fits_nar_byte _) W i hi hl))
theorem own_aastore (H : Wk p l e R s m args below meth c Z EL a0 w T h k n sf) (hx : p.tables.exec = Jvm.exec) {a : Addr} {kA : ClassId} {C : String} {z j : Int32} {v : Value} {vs : List Value} {d : Value} (V : Arv Z h a kA (.object C) z vs d) (hj : ¬ j < 0 ∧ j < z) (i : Nat) (hi : j.toNatClampNeg = i) (hl : i < vs.length) (F : Sto Z h a v) (hf : v.isRef = true) (ha : Z.heap.size ≤ a) {g : JFrame} (hg : g.method = m) {rest : List Value} (hs : g.stack = v :: .int j :: .ref a :: rest) (hd : decode c.code g.pc = .ok (.aastore, 1))
    (K : ∀ T' h', Wk p l e R s m args below meth c Z EL a0 w T' h' k n sf → Wr h h' a j.toNatClampNeg v → Arv Z h' a kA (.object C) z (vs.set i v) d → Go p e below Φ T' { g with pc := g.pc + 1, stack := rest }) : Go p e below Φ T g := by
  have hsw : own_sw Z EL sf h a := own_arr V (by simp)
  obtain ⟨hE, vm0, locs, k0, X, eT, r, hk, hZ, N, O, C, S⟩ := H
  obtain ⟨cl, A, q1, q, nz, Hs, G⟩ := V
  obtain ⟨T', h', X', e', W, st⟩ := stR X hx hZ eT A (inb_of q hj) rfl F hg hs hd
  exact Go.of st (K T' h' (own_wrote hE X' e' W r hk hZ N O C S ha hsw) W (Arv.set A q1 q nz Hs G (by rcases ref_cases hf with rfl | ⟨_, rfl⟩ <;> rfl) W i hi hl))
theorem own_cast (H : Wk p l e R s m args below meth c Z EL a0 w T h k n sf) (hx : p.tables.exec = Jvm.exec) {own K0 : String} {index : Nat} (hown : s.vm.findClass own = some m.cls) (wd : (Cond.classLink own index K0).before a0 Z = true) {a : Addr} (F : Ins Z h a K0 true) {g : JFrame} (hg : g.method = m) {rest : List Value} (hs : g.stack = .ref a :: rest) (hd : decode c.code g.pc = .ok (.checkcast index, 3))
    (K : ∀ T', Wk p l e R s m args below meth c Z EL a0 w T' h k n sf → Go p e below Φ T' { g with pc := g.pc + 3 }) : Go p e below Φ T g := by
  obtain ⟨hE, vm0, locs, k0, X, eT, r, hk, hZ, N, O, C, S⟩ := H
  obtain ⟨T', X', e', st⟩ := castY X hx hZ (own_found r hown) wd eT F hg hs hd
  exact Go.of st (K T' ⟨hE, vm0, locs, k0, X', e', r, hk, hZ, N, O, C, S⟩)
theorem own_inst (H : Wk p l e R s m args below meth c Z EL a0 w T h k n sf) (hx : p.tables.exec = Jvm.exec) {own K0 : String} {index : Nat} (hown : s.vm.findClass own = some m.cls) (wd : (Cond.classLink own index K0).before a0 Z = true) {a : Addr} (F : Ins Z h a K0 true) {g : JFrame} (hg : g.method = m) {rest : List Value} (hs : g.stack = .ref a :: rest) (hd : decode c.code g.pc = .ok (.instanceof index, 3))
    (K : ∀ T', Wk p l e R s m args below meth c Z EL a0 w T' h k n sf → Go p e below Φ T' { g with pc := g.pc + 3, stack := .int 1 :: rest }) : Go p e below Φ T g := by
  obtain ⟨hE, vm0, locs, k0, X, eT, r, hk, hZ, N, O, C, S⟩ := H
  obtain ⟨T', X', e', st⟩ := instY X hx hZ (own_found r hown) wd eT F hg hs hd
  exact Go.of st (K T' ⟨hE, vm0, locs, k0, X', e', r, hk, hZ, N, O, C, S⟩)
/-- behind a literal or a call that may intern -/
theorem own_past {vm0 : Vm} {k1 : Nat} {T' : State} {h' : Heap} {locs' : List Loc} {k' n' : Nat} (hE : EW Z a0 EL) (X' : Stand p l e R (s.setVm T'.vm) m args below meth c T' locs' k' n') (e' : T'.heap = h') (r : s.Since T'.vm k1) (hk : k1 ≤ h'.size) (hZ : Z.Warmed39 T'.vm) (N : Fr Z.heap.size locs') (O : Ext Z.heap h') (C : CHr Z EL s.vm s.heap vm0 h) (C' : CHr Z EL vm0 h T'.vm h') (S : ∀ x ∈ sf, x < h.size ∧ Safe Z EL vm0 h x) :
    Wk p l e R s m args below meth c Z EL a0 true T' h' k' n' sf :=
  ⟨hE, T'.vm, _, k1, X', e', r, hk, hZ, N, O, C.trans C', fun x hx => ⟨Nat.lt_of_lt_of_le (S x hx).1 C'.2.1, C'.safe (S x hx).1 (S x hx).2⟩⟩
theorem own_ldcS (H : Wk p l e R s m args below meth c Z EL a0 true T h k n sf) (hx : p.tables.exec = Jvm.exec) {own text : String} {index : Nat} (hown : s.vm.findClass own = some m.cls) (wd : (Cond.stringLink own index text).before a0 Z = true) (wS : ∀ a ∈ Bundle.stringAtoms, a.before a0 Z = true) (hmem : (own, index) ∈ EL)
    {vs : List Value} {z : Int32} (ht : (∀ c ∈ text.toList, c.toNat < 256) ∧ text.toList.map (fun c => Value.int (Jvm.Lit.byteI c.toNat.toUInt16)) = vs) (hz : ¬ z < 0) (hl : z.toNatClampNeg = vs.length)
    {g : JFrame} (hg : g.method = m) (hd : decode c.code g.pc = .ok (.ldc index, 2)) {nn : Nat} (hn : 4 * text.toList.length ≤ nn) (hbig : nn ≤ 536870912) (hc : k + 2 ≤ R.cells) (hl' : n + (nn + 4) ≤ R.slots)
    (K : ∀ T' h' a b kb, Wk p l e R s m args below meth c Z EL a0 true T' h' (k + 2) (n + (nn + 4)) sf → Ext h h' → Exa Z h' a "java/lang/String" → Fld Z h' a "java/lang/String" "coder" "B" (.int 0) → Fld Z h' a "java/lang/String" "value" "[B" (.ref b) → Arv Z h' b kb .byte z vs (.int 0) → (∀ x ∈ sf, x ≠ a ∧ x ≠ b) → Go p e below Φ T' { g with pc := g.pc + 2, stack := .ref a :: g.stack }) : Go p e below Φ T g := by
  obtain ⟨hE, vm0, locs, k0, X, eT, r, hk, hZ, N, O, C, S⟩ := H
  obtain ⟨a, T', h', k1, b, kb, X', e', E, r', hk', hZ', hf', E1, F1, F2, V, -, -, C', -, hne, st⟩ := ldcCH X hx hZ (own_found r hown) wd wS eT r hk hE hmem C.1 ht hz hl hg hd hn hbig hc hl'
  have H' : Wk p l e R s m args below meth c Z EL a0 true T' h' (k + 2) (n + (nn + 4)) sf := own_past hE X' e' r' hk' hZ' N (Old.ext ⟨rfl, O⟩ E).2 C C' S
  exact Go.of st (K T' h' a b kb H' E E1 F1 F2 V fun x hx => hne x (C'.safe (S x hx).1 (S x hx).2))
theorem own_ldcO (H : Wk p l e R s m args below meth c Z EL a0 true T h k n sf) (hx : p.tables.exec = Jvm.exec) {own text : String} {index : Nat} (hown : s.vm.findClass own = some m.cls) (wd : (Cond.stringLink own index text).before a0 Z = true) (wS : ∀ a ∈ Bundle.stringAtoms, a.before a0 Z = true)
    {g : JFrame} (hg : g.method = m) (hd : decode c.code g.pc = .ok (.ldc index, 2)) {nn : Nat} (hn : 4 * text.toList.length ≤ nn) (hbig : nn ≤ 536870912) (hc : k + 2 ≤ R.cells) (hl' : n + (nn + 4) ≤ R.slots)
    (K : ∀ T' h' a, Wk p l e R s m args below meth c Z EL a0 true T' h' (k + 2) (n + (nn + 4)) sf → Ext h h' → Go p e below Φ T' { g with pc := g.pc + 2, stack := .ref a :: g.stack }) : Go p e below Φ T g := by
  obtain ⟨hE, vm0, locs, k0, X, eT, r, hk, hZ, N, O, C, S⟩ := H
  obtain ⟨a, T', h', k1, X', e', E, r', hk', hZ', hf', C', -, st⟩ := ldcOH X hx hZ (own_found r hown) wd wS eT r hk hE C.1 hg hd hn hbig hc hl'
  exact Go.of st (K T' h' a (own_past hE X' e' r' hk' hZ' N (Old.ext ⟨rfl, O⟩ E).2 C C' S) E)
/-! returns -/
theorem own_leave (H : Wk p l e R s m args below meth c Z EL a0 w T h k n sf) {v : Option Value} {Q : Option Value → Heap → Prop} (hl : meth.locks = false) (hv : meth.sig.returnType = none → v = none) (q : Q v h) (hk : k ≤ R.cells) (hn : n ≤ R.slots) {g : JFrame}
    (st : ∀ {locs : List Loc} {s' : State} (X : Stand p l e R s' m args below meth c T locs k n) {fs : List Frame}, (∀ (f : JFrame) (acts : List Action), f.method = m → f.locked = none → f.entered = [] → (doReturn e (T.setTop f) acts v).1 = T.setFrames fs) → Steps p.tables e below (T.setTop g) (T.setFrames fs)) :
    Go p e below (own_fin Z EL w s below Q R.cells R.slots) T g := by
  obtain ⟨hE, vm0, locs, k0, X, eT, r, hk0, hZ, N, O, C, S⟩ := H
  have CU : CHr Z EL s.vm s.heap T.vm T.heap := by rw [eT]; exact C.trans (CHv.at X hZ hE C.1)
  cases w
  · have r : vm0 = s.vm := r
    subst r
    obtain ⟨fs, hr, hrun, hended, hW, hsame⟩ := X.leave hv hl
    exact ⟨_, st X hr, _, hrun, hended, v, locs, rfl, ⟨N, by show Ext Z.heap T.heap; rw [eT]; exact O, by show Q v T.heap; rw [eT]; exact q⟩, CU, ⟨⟨v, rfl⟩, hW, hsame.mono hk hn⟩⟩
  · obtain ⟨fs, hr, hrun, hended, hend⟩ := X.leaveW r (by rw [eT]; exact hk0) hv hl
    exact ⟨_, st X hr, _, hrun, hended, v, locs, rfl, ⟨N, by show Ext Z.heap T.heap; rw [eT]; exact O, by show Q v T.heap; rw [eT]; exact q⟩, CU, ⟨hend.1, hend.2.1, hend.2.2.1, hend.2.2.2.mono hk hn⟩⟩
theorem own_retI (H : Wk p l e R s m args below meth c Z EL a0 w T h k n sf) (hx : p.tables.exec = Jvm.exec) (hl : meth.locks = false) (hret : meth.sig.returnType = some .int) {pc : Nat} {Ls : Array Slot} {z : Int32} {rest : List Value} {Q : Option Value → Heap → Prop} (hd : decode c.code pc = .ok (.ireturn, 1)) (q : Q (some (.int z)) h) (hk : k ≤ R.cells) (hn : n ≤ R.slots) :
    Go p e below (own_fin Z EL w s below Q R.cells R.slots) T (mkF m pc Ls (.int z :: rest)) :=
  own_leave H hl (fun h => by rw [hret] at h; cases h) q hk hn fun {_ _} X {_} hr => retI X hx hret hd hr
theorem own_retN (H : Wk p l e R s m args below meth c Z EL a0 w T h k n sf) (hx : p.tables.exec = Jvm.exec) (hl : meth.locks = false) {t : FieldType} (hret : meth.sig.returnType = some t) (ht : t = .boolean ∨ t = .byte ∨ t = .char ∨ t = .short) {pc : Nat} {Ls : Array Slot} {z : Int32} {rest : List Value} {Q : Option Value → Heap → Prop} (hd : decode c.code pc = .ok (.ireturn, 1)) (q : Q (some (.int (nar t z))) h) (hk : k ≤ R.cells) (hn : n ≤ R.slots) :
    Go p e below (own_fin Z EL w s below Q R.cells R.slots) T (mkF m pc Ls (.int z :: rest)) :=
  own_leave H hl (fun h => by rw [hret] at h; cases h) q hk hn fun {_ _} X {_} hr => retN X hx hret ht hd hr
theorem own_ret (H : Wk p l e R s m args below meth c Z EL a0 w T h k n sf) (hx : p.tables.exec = Jvm.exec) (hl : meth.locks = false) (hret : meth.sig.returnType = none) {pc : Nat} {Ls : Array Slot} {Q : Option Value → Heap → Prop} (hd : decode c.code pc = .ok (.return_, 1)) (q : Q none h) (hk : k ≤ R.cells) (hn : n ≤ R.slots) :
    Go p e below (own_fin Z EL w s below Q R.cells R.slots) T (mkF m pc Ls []) :=
  own_leave H hl (fun _ => rfl) q hk hn fun {_ _} X {_} hr => X.returnOut hx hret hd hr
theorem own_retA_step {locs : List Loc} (X : Stand p l e R s m args below meth c T locs k n) (hx : p.tables.exec = Jvm.exec) {t : FieldType} (hret : meth.sig.returnType = some t) (ht : t.isReference = true) {pc : Nat} {Ls : Array Slot} {v : Value} (hv : v.isRef = true) {rest : List Value} (hd : decode c.code pc = .ok (.areturn, 1)) {fs : List Frame}
    (hr : ∀ (f : JFrame) (acts : List Action), f.method = m → f.locked = none → f.entered = [] → (doReturn e (T.setTop f) acts (some v)).1 = T.setFrames fs) : Steps p.tables e below (T.setTop (mkF m pc Ls (v :: rest))) (T.setFrames fs) := by
  have hm' : T.vm.method? m = some meth := X.method'
  show Steps p.tables e below (T.setTop { method := m, pc := pc, locals := Ls, stack := _ :: rest, locked := none }) _
  jvm_step X.here [X.here.top, hx, hd, hm', hret, hv, ht]
  first | (intro acts; rw [hr _ acts rfl rfl rfl]) | rw [hr _ _ rfl rfl rfl]
  exact Steps.refl _
theorem own_retA (H : Wk p l e R s m args below meth c Z EL a0 w T h k n sf) (hx : p.tables.exec = Jvm.exec) (hl : meth.locks = false) {t : FieldType} (hret : meth.sig.returnType = some t) (ht : t.isReference = true) {pc : Nat} {Ls : Array Slot} {v : Value} (hv : v.isRef = true) {rest : List Value} {Q : Option Value → Heap → Prop} (hd : decode c.code pc = .ok (.areturn, 1)) (q : Q (some v) h) (hk : k ≤ R.cells) (hn : n ≤ R.slots) :
    Go p e below (own_fin Z EL w s below Q R.cells R.slots) T (mkF m pc Ls (v :: rest)) :=
  own_leave H hl (fun h => by rw [hret] at h; cases h) q hk hn fun {_ _} X {_} hr => own_retA_step X hx hret ht hv hd hr
/-! calls that a law of the library pays (Back), or a narrow contract -/
theorem own_kept {vm0 : Vm} {locs L : List Loc} {k0 : Nat} {kc kn : Nat} {B : Pt} {ws : List Addr} (hE : EW Z a0 EL) (X' : Stand p l e R (s.setVm vm0) m args below meth c B.U B.locs B.cells B.slots) (r : own_rel w s vm0 k0) (hk : k0 ≤ h.size) (hZ : Z.Warmed39 vm0) (N : Fr Z.heap.size locs) (O : Ext Z.heap h) (C : CHr Z EL s.vm s.heap vm0 h) (S : ∀ x ∈ sf, x < h.size ∧ Safe Z EL vm0 h x)
    (hL : Fr Z.heap.size L) (Kp : Keep h B.U.heap ws) (hws : ∀ x ∈ ws, Z.heap.size ≤ x ∧ own_sw Z EL sf h x) (el : B.locs = locs ++ L) (ek : B.cells = k + kc) (en : B.slots = n + kn) : Wk p l e R s m args below meth c Z EL a0 w B.U B.U.heap (k + kc) (n + kn) sf := by
  have hs : ∀ x ∈ ws, Safe Z EL vm0 h x := fun x hx => (hws x hx).2.safe hZ.alike S
  refine ⟨hE, vm0, locs ++ L, k0, by rw [← el, ← ek, ← en]; exact X', rfl, r, Nat.le_trans hk Kp.1, hZ, Fr.app N hL, (Old.keep ⟨rfl, O⟩ Kp fun x hx => (hws x hx).1).2, C.trans (CHr.keep Kp hs C.1), fun x hx => ⟨Nat.lt_of_lt_of_le (S x hx).1 Kp.1, (S x hx).2.keep Kp hs C.1⟩⟩
theorem own_staticB (H : Wk p l e R s m args below meth c Z EL a0 w T h k n sf) (hx : p.tables.exec = Jvm.exec) {own : String} {index : Nat} {y : MethodName} {bytes : ByteArray} {maxL : Nat} {ret : Option FieldType} (hown : s.vm.findClass own = some m.cls) (w1 : (Cond.methodLink own index y).before a0 Z = true) (w2 : (Cond.static y).before a0 Z = true) (w3 : (Cond.initialized y.cls).before a0 Z = true) (w4 : (Cond.code y bytes maxL ret).before a0 Z = true)
    (hy : y.cls ≠ "java/lang/invoke/MethodHandle" ∧ y.cls ≠ "java/lang/invoke/VarHandle") {W kc kn : Nat} {as' : Array Value} (Q : Option Value → Heap → List Loc → Prop)
    (hB : ∀ vm0, Z.Warmed39 vm0 → CHv Z EL vm0 h → Back l R p e below (s.setVm vm0) args y 3 W (fun A a => a = as' ∧ A.U.heap = h ∧ A.cells + kc ≤ R.cells ∧ A.slots + kn ≤ R.slots) (fun A _ v B => ∃ L, Q v B.U.heap L ∧ B.locs = A.locs ++ L ∧ B.cells = A.cells + kc ∧ B.slots = A.slots + kn))
    {ws : List Addr} (hq : ∀ v h' L, Q v h' L → Fr Z.heap.size L ∧ Keep h h' ws) (hws : ∀ x ∈ ws, Z.heap.size ≤ x ∧ own_sw Z EL sf h x)
    {g : JFrame} (hg : g.method = m) (hsize : g.locals.size = c.maxLocals) {argsL rest : List Value} (has : argsL.toArray = as') (hlen : ∀ sig, parseMethodDescriptor y.desc = some sig → argsL.length = sig.parameters.length) (hstack : g.stack = argsL.reverse ++ rest) (hW : 2 * g.monitorRoom + (rest.map fun v => v.category).sum ≤ W) (hd : decode c.code g.pc = .ok (.invokestatic index, 3)) (hc : k + kc ≤ R.cells) (hn : n + kn ≤ R.slots)
    (K : ∀ T' h' v L, Wk p l e R s m args below meth c Z EL a0 w T' h' (k + kc) (n + kn) sf → Q v h' L → Go p e below Φ T' { g with pc := g.pc + 3, stack := v.toList ++ rest }) : Go p e below Φ T g := by
  obtain ⟨hE, vm0, locs, k0, X, eT, r, hk, hZ, N, O, C, S⟩ := H
  obtain ⟨v, vm1, B, hWm, X', ⟨L, hQ, el, ek, en⟩, st⟩ := Jvm.LawKit.callS X hx (own_found r hown) (mvT hZ w1) (mvT hZ w2) (mvT hZ w3) (mvT hZ w4) hy (hB vm0 hZ C.1) hg hsize hlen hstack hW hd fun _ _ => ⟨has, eT, hc, hn⟩
  obtain ⟨hL, Kp⟩ := hq _ _ _ hQ
  exact Go.of st (K B.U _ v L (own_kept hE X' r hk hZ N O C S hL Kp hws el ek en) hQ)
theorem own_specialB (H : Wk p l e R s m args below meth c Z EL a0 w T h k n sf) (hx : p.tables.exec = Jvm.exec) {own : String} {index : Nat} {y : MethodName} {bytes : ByteArray} {maxL : Nat} (hy1 : y.name = "<init>") (hown : s.vm.findClass own = some m.cls) (w1 : (Cond.methodLink own index y).before a0 Z = true) (w2 : (Cond.instanceMethod y).before a0 Z = true) (w4 : (Cond.code y bytes maxL none).before a0 Z = true)
    (hy : y.cls ≠ "java/lang/invoke/MethodHandle" ∧ y.cls ≠ "java/lang/invoke/VarHandle") {W kc kn : Nat} {as' : Array Value} (Q : Option Value → Heap → List Loc → Prop)
    (hB : ∀ vm0, Z.Warmed39 vm0 → CHv Z EL vm0 h → Back l R p e below (s.setVm vm0) args y 3 W (fun A a => a = as' ∧ A.U.heap = h ∧ A.cells + kc ≤ R.cells ∧ A.slots + kn ≤ R.slots) (fun A _ v B => ∃ L, Q v B.U.heap L ∧ B.locs = A.locs ++ L ∧ B.cells = A.cells + kc ∧ B.slots = A.slots + kn))
    {ws : List Addr} (hq : ∀ v h' L, Q v h' L → Fr Z.heap.size L ∧ Keep h h' ws) (hws : ∀ x ∈ ws, Z.heap.size ≤ x ∧ own_sw Z EL sf h x)
    {g : JFrame} (hg : g.method = m) (hsize : g.locals.size = c.maxLocals) {a : Addr} {argsL rest : List Value} (has : (.ref a :: argsL).toArray = as') (hlen : ∀ sig, parseMethodDescriptor y.desc = some sig → argsL.length = sig.parameters.length) (hstack : g.stack = argsL.reverse ++ .ref a :: rest) (hW : 2 * g.monitorRoom + (rest.map fun v => v.category).sum ≤ W) (hd : decode c.code g.pc = .ok (.invokespecial index, 3)) (hc : k + kc ≤ R.cells) (hn : n + kn ≤ R.slots)
    (K : ∀ T' h' v L, Wk p l e R s m args below meth c Z EL a0 w T' h' (k + kc) (n + kn) sf → Q v h' L → Go p e below Φ T' { g with pc := g.pc + 3, stack := v.toList ++ rest }) : Go p e below Φ T g := by
  obtain ⟨hE, vm0, locs, k0, X, eT, r, hk, hZ, N, O, C, S⟩ := H
  obtain ⟨v, vm1, B, hWm, X', ⟨L, hQ, el, ek, en⟩, st⟩ := X.specialBack hx hy1 (own_found r hown) (mvT hZ w1) (mvT hZ w2) (mvT hZ w4) hy (hB vm0 hZ C.1) hg hsize (Steps.refl _) hlen hstack hW hd fun _ _ => ⟨has, eT, hc, hn⟩
  obtain ⟨hL, Kp⟩ := hq _ _ _ hQ
  exact Go.by st (K B.U _ v L (own_kept hE X' r hk hZ N O C S hL Kp hws el ek en) hQ)
theorem own_virtualB (H : Wk p l e R s m args below meth c Z EL a0 w T h k n sf) (hx : p.tables.exec = Jvm.exec) {own C : String} {index : Nat} {y z : MethodName} (hown : s.vm.findClass own = some m.cls) (w1 : (Cond.methodLink own index y).before a0 Z = true) (w2 : (Cond.declares y).before a0 Z = true) (w3 : (Cond.selects C y z).before a0 Z = true) (hnf : y = z) (w4 : (Cond.instanceMethod z).before a0 Z = true)
    (hy : y.cls ≠ "java/lang/invoke/MethodHandle" ∧ y.cls ≠ "java/lang/invoke/VarHandle") {W kc kn : Nat} {as' : Array Value} (Q : Option Value → Heap → List Loc → Prop)
    (hB : ∀ vm0, Z.Warmed39 vm0 → CHv Z EL vm0 h → Back l R p e below (s.setVm vm0) args z 3 W (fun A a => a = as' ∧ A.U.heap = h ∧ A.cells + kc ≤ R.cells ∧ A.slots + kn ≤ R.slots) (fun A _ v B => ∃ L, Q v B.U.heap L ∧ B.locs = A.locs ++ L ∧ B.cells = A.cells + kc ∧ B.slots = A.slots + kn))
    {ws : List Addr} (hq : ∀ v h' L, Q v h' L → Fr Z.heap.size L ∧ Keep h h' ws) (hws : ∀ x ∈ ws, Z.heap.size ≤ x ∧ own_sw Z EL sf h x)
    {b : Addr} (E : Exa Z h b C) {g : JFrame} (hg : g.method = m) (hsize : g.locals.size = c.maxLocals) {argsL rest : List Value} (has : (.ref b :: argsL).toArray = as') (hlen : ∀ sig, parseMethodDescriptor y.desc = some sig → argsL.length = sig.parameters.length) (hstack : g.stack = argsL.reverse ++ .ref b :: rest) (hW : 2 * g.monitorRoom + (rest.map fun v => v.category).sum ≤ W) (hd : decode c.code g.pc = .ok (.invokevirtual index, 3)) (hc : k + kc ≤ R.cells) (hn : n + kn ≤ R.slots)
    (K : ∀ T' h' v L, Wk p l e R s m args below meth c Z EL a0 w T' h' (k + kc) (n + kn) sf → Q v h' L → Go p e below Φ T' { g with pc := g.pc + 3, stack := v.toList ++ rest }) : Go p e below Φ T g := by
  subst hnf
  obtain ⟨hE, vm0, locs, k0, X, eT, r, hk, hZ, N, O, C, S⟩ := H
  obtain ⟨cq, kq, qa, qb, qc⟩ := isOf (s := s.setVm vm0) hZ eT E
  obtain ⟨v, vm1, B, hWm, X', ⟨L, hQ, el, ek, en⟩, st⟩ := X.virtualBack hx (own_found r hown) (mvT hZ w1) (mvT hZ w2) (notFace_of_selects (args := #[]) (mvT hZ w3)) (mvT hZ w3) (mvT hZ w4) hy (hB vm0 hZ C.1) qa qc hg hsize (Steps.refl _) hlen hstack hW hd fun _ _ => ⟨has, eT, hc, hn⟩
  obtain ⟨hL, Kp⟩ := hq _ _ _ hQ
  exact Go.by st (K B.U _ v L (own_kept hE X' r hk hZ N O C S hL Kp hws el ek en) hQ)
/-- a narrow contract at a call -/
theorem own_backN {y : MethodName} {bytes : ByteArray} {maxL : Nat} {ret : Option FieldType} {rm : Room} {len W : Nat} {as' : Array Value} {vm0 : Vm} {Q : Option Value → Heap → Prop} (hM : Ct l Z [] a0 false y bytes maxL ret [] rm as' h [] Q)
    (wc : (Cond.code y bytes maxL ret).before a0 Z = true) (wz : (Cond.initialized y.cls).before a0 Z = true) (hf : rm.frames + 1 ≤ R.frames) (hl : W + (maxL + 11) + rm.locals ≤ R.locals) (hZ : Z.Warmed39 vm0) :
    Back l R p e below (s.setVm vm0) args y len W (fun A a => a = as' ∧ A.U.heap = h ∧ A.cells + rm.cells ≤ R.cells ∧ A.slots + rm.slots ≤ R.slots) (fun A _ v B => ∃ L, (Fr Z.heap.size L ∧ Ext Z.heap B.U.heap ∧ Q v B.U.heap) ∧ B.locs = A.locs ++ L ∧ B.cells = A.cells + rm.cells ∧ B.slots = A.slots + rm.slots) := by
  refine backOf (s := s.setVm vm0) (Q := fun v h' L => Fr Z.heap.size L ∧ Ext Z.heap h' ∧ Q v h') ?_ hZ wc wz hf hl
  intro p e ha hc hk s m args below hf happ hP hK
  obtain ⟨n, o, h1, h2, h3, v, L, rfl, r, -, q⟩ := hM p e ha hc hk s m args below hf happ ⟨hP.1, hP.2.1, hP.2.2, (fun _ hq => nomatch hq), (fun _ hq => nomatch hq)⟩ hK
  exact ⟨n, _, h1, h2, h3, v, L, rfl, r, q⟩
/-! calls of a callee that may intern -/
theorem own_backW {y : MethodName} {bytes : ByteArray} {maxL : Nat} {ret : Option FieldType} {rm : Room} {len W : Nat} {as' : Array Value} {sfc : List Addr} {vm0 : Vm} {Q : Option Value → Heap → Prop} (hM : Ct l Z EL a0 true y bytes maxL ret [] rm as' h sfc Q)
    (wc : (Cond.code y bytes maxL ret).before a0 Z = true) (wz : (Cond.initialized y.cls).before a0 Z = true) (hf : rm.frames + 1 ≤ R.frames) (hl : W + (maxL + 11) + rm.locals ≤ R.locals) (hZ : Z.Warmed39 vm0) (hE : EW Z a0 EL) (H : CHv Z EL vm0 h) (S : ∀ x ∈ sfc, x < h.size ∧ Safe Z EL vm0 h x) :
    BackS l R p e below (s.setVm vm0) args y len W (fun A a => a = as' ∧ A.U.heap = h ∧ A.cells + rm.cells ≤ R.cells ∧ A.slots + rm.slots ≤ R.slots)
      (fun A _ v B => ∃ L, (Fr Z.heap.size L ∧ Ext Z.heap B.U.heap ∧ Q v B.U.heap) ∧ B.locs = A.locs ++ L ∧ B.cells = A.cells + rm.cells ∧ B.slots = A.slots + rm.slots ∧ CHr Z EL vm0 h B.U.vm B.U.heap) :=
  BackS.of_freeW (bytes := bytes) (maxL := maxL) (ret := ret) (E := fun _ first o t L k n => k = rm.cells ∧ n = rm.slots ∧ (∃ v, o = .returned v ∧ Fr Z.heap.size L ∧ Ext Z.heap t.heap ∧ Q v t.heap) ∧ CHr Z EL first.vm first.heap t.vm t.heap) hM hf hl
    (fun m meth c A a Y hp => have hU : Z.Warmed39 A.U.vm := wtrans (s := s.setVm vm0) hZ Y.warmed
      ⟨by show (Cond.and _ .tt).before a A.U = true; rw [Cond.before_and, mv hU wc]; rfl, mv hU wc, mv hU wz, hp.2.2.1, hp.2.2.2⟩)
    (fun m meth c A a g mk Y hp => have q := CHv.at Y hZ hE H
      ⟨hp.1, wtrans (s := s.setVm vm0) hZ Y.warmed, hp.2.1, q.1, fun x hx => ⟨(S x hx).1, q.safe (S x hx).1 (S x hx).2⟩⟩) (fun _ _ _ _ _ _ _ _ _ => trivial)
    (fun _ _ _ _ ⟨v, L, h1, h2, h3, h4⟩ => ⟨L, _, _, h4, rfl, rfl, ⟨v, h1, h2⟩, h3⟩)
    (fun m meth c A a g mk v t L k n Y hp _ _ ⟨e1, e2, ⟨v', e3, e4⟩, e5⟩ => by
      cases e3; subst e1 e2
      refine ⟨L, e4, rfl, rfl, rfl, (CHv.at Y hZ hE H).trans ?_⟩
      rw [← hp.2.1]; exact e5)
theorem own_wide {vm0 : Vm} {locs L : List Loc} {k0 : Nat} {kc kn : Nat} {B : Pt} (hE : EW Z a0 EL) (X' : Stand p l e R (s.setVm B.U.vm) m args below meth c B.U B.locs B.cells B.slots) (r : s.Since vm0 k0) (hk : k0 ≤ h.size) (eT : T.heap = h) (h2 : (s.setVm vm0).Since B.U.vm B.U.heap.size) (gr : T.heap.size ≤ B.U.heap.size) (hZ : Z.Warmed39 vm0) (N : Fr Z.heap.size locs) (C : CHr Z EL s.vm s.heap vm0 h) (S : ∀ x ∈ sf, x < h.size ∧ Safe Z EL vm0 h x)
    (hL : Fr Z.heap.size L) (O : Ext Z.heap B.U.heap) (el : B.locs = locs ++ L) (ek : B.cells = k + kc) (en : B.slots = n + kn) (C' : CHr Z EL vm0 h B.U.vm B.U.heap) : Wk p l e R s m args below meth c Z EL a0 true B.U B.U.heap (k + kc) (n + kn) sf := by
  refine own_past hE (by rw [← ek, ← en]; exact X') rfl (r.trans h2 (Nat.le_trans hk (by rw [← eT]; exact gr))) (Nat.le_refl _) (State.Warmed39.trans (t := s.setVm vm0) hZ h2.1) (by rw [el]; exact Fr.app N hL) O C C' S
theorem own_staticW (H : Wk p l e R s m args below meth c Z EL a0 true T h k n sf) (hx : p.tables.exec = Jvm.exec) {own : String} {index : Nat} {y : MethodName} {bytes : ByteArray} {maxL : Nat} {ret : Option FieldType} (hown : s.vm.findClass own = some m.cls) (w1 : (Cond.methodLink own index y).before a0 Z = true) (w2 : (Cond.static y).before a0 Z = true) (w3 : (Cond.initialized y.cls).before a0 Z = true) (w4 : (Cond.code y bytes maxL ret).before a0 Z = true)
    (hy : y.cls ≠ "java/lang/invoke/MethodHandle" ∧ y.cls ≠ "java/lang/invoke/VarHandle") {W : Nat} {rm : Room} {as' : Array Value} {sfc : List Addr} {Q : Option Value → Heap → Prop} (hM : Ct l Z EL a0 true y bytes maxL ret [] rm as' h sfc Q) (hsf : ∀ x ∈ sfc, x ∈ sf) (hf : rm.frames + 1 ≤ R.frames) (hl : W + (maxL + 11) + rm.locals ≤ R.locals)
    {g : JFrame} (hg : g.method = m) (hsize : g.locals.size = c.maxLocals) {argsL rest : List Value} (has : argsL.toArray = as') (hlen : ∀ sig, parseMethodDescriptor y.desc = some sig → argsL.length = sig.parameters.length) (hstack : g.stack = argsL.reverse ++ rest) (hW : 2 * g.monitorRoom + (rest.map fun v => v.category).sum ≤ W) (hd : decode c.code g.pc = .ok (.invokestatic index, 3)) (hc : k + rm.cells ≤ R.cells) (hn : n + rm.slots ≤ R.slots)
    (K : ∀ T' h' v, Wk p l e R s m args below meth c Z EL a0 true T' h' (k + rm.cells) (n + rm.slots) sf → h.size ≤ h'.size → Q v h' → Go p e below Φ T' { g with pc := g.pc + 3, stack := v.toList ++ rest }) : Go p e below Φ T g := by
  obtain ⟨hE, vm0, locs, k0, X, eT, r, hk, hZ, N, O, C, S⟩ := H
  obtain ⟨v, vm1, B, hWm, X', h2, gr, ⟨L, ⟨hL, O', hQ⟩, el, ek, en, C'⟩, st⟩ := callSS X hx (own_found r hown) (mvT hZ w1) (mvT hZ w2) (mvT hZ w3) (mvT hZ w4) hy (own_backW hM w4 w3 hf hl hZ hE C.1 fun x hx => S x (hsf x hx)) hg hsize hlen hstack hW hd fun _ _ => ⟨has, eT, hc, hn⟩
  exact Go.by st (K B.U _ v (own_wide hE X' r hk eT h2 gr hZ N C S hL O' el ek en C') C'.2.1 hQ)
theorem own_specialW (H : Wk p l e R s m args below meth c Z EL a0 true T h k n sf) (hx : p.tables.exec = Jvm.exec) {own : String} {index : Nat} {y : MethodName} {bytes : ByteArray} {maxL : Nat} (hy1 : y.name = "<init>") (hown : s.vm.findClass own = some m.cls) (w1 : (Cond.methodLink own index y).before a0 Z = true) (w2 : (Cond.instanceMethod y).before a0 Z = true) (w3 : (Cond.initialized y.cls).before a0 Z = true) (w4 : (Cond.code y bytes maxL none).before a0 Z = true)
    (hy : y.cls ≠ "java/lang/invoke/MethodHandle" ∧ y.cls ≠ "java/lang/invoke/VarHandle") {W : Nat} {rm : Room} {as' : Array Value} {sfc : List Addr} {Q : Option Value → Heap → Prop} (hM : Ct l Z EL a0 true y bytes maxL none [] rm as' h sfc Q) (hsf : ∀ x ∈ sfc, x ∈ sf) (hf : rm.frames + 1 ≤ R.frames) (hl : W + (maxL + 11) + rm.locals ≤ R.locals)
    {g : JFrame} (hg : g.method = m) (hsize : g.locals.size = c.maxLocals) {a : Addr} {argsL rest : List Value} (has : (.ref a :: argsL).toArray = as') (hlen : ∀ sig, parseMethodDescriptor y.desc = some sig → argsL.length = sig.parameters.length) (hstack : g.stack = argsL.reverse ++ .ref a :: rest) (hW : 2 * g.monitorRoom + (rest.map fun v => v.category).sum ≤ W) (hd : decode c.code g.pc = .ok (.invokespecial index, 3)) (hc : k + rm.cells ≤ R.cells) (hn : n + rm.slots ≤ R.slots)
    (K : ∀ T' h' v, Wk p l e R s m args below meth c Z EL a0 true T' h' (k + rm.cells) (n + rm.slots) sf → h.size ≤ h'.size → Q v h' → Go p e below Φ T' { g with pc := g.pc + 3, stack := v.toList ++ rest }) : Go p e below Φ T g := by
  obtain ⟨hE, vm0, locs, k0, X, eT, r, hk, hZ, N, O, C, S⟩ := H
  obtain ⟨v, vm1, B, hWm, X', h2, gr, ⟨L, ⟨hL, O', hQ⟩, el, ek, en, C'⟩, st⟩ := X.specialBackS hx hy1 (own_found r hown) (mvT hZ w1) (mvT hZ w2) (mvT hZ w4) hy (own_backW hM w4 w3 hf hl hZ hE C.1 fun x hx => S x (hsf x hx)) hg hsize (Steps.refl _) hlen hstack hW hd fun _ _ => ⟨has, eT, hc, hn⟩
  exact Go.by st (K B.U _ v (own_wide hE X' r hk eT h2 gr hZ N C S hL O' el ek en C') C'.2.1 hQ)
theorem own_virtualW (H : Wk p l e R s m args below meth c Z EL a0 true T h k n sf) (hx : p.tables.exec = Jvm.exec) {own C : String} {index : Nat} {y z : MethodName} {bytes : ByteArray} {maxL : Nat} {ret : Option FieldType} (hown : s.vm.findClass own = some m.cls) (w1 : (Cond.methodLink own index y).before a0 Z = true) (w2 : (Cond.declares y).before a0 Z = true) (hnf : ∀ vm0, Z.Warmed39 vm0 → NotFace (s.setVm vm0) y) (w3 : (Cond.selects C y z).before a0 Z = true) (w5 : (Cond.instanceMethod z).before a0 Z = true) (w6 : (Cond.initialized z.cls).before a0 Z = true) (w4 : (Cond.code z bytes maxL ret).before a0 Z = true)
    (hy : y.cls ≠ "java/lang/invoke/MethodHandle" ∧ y.cls ≠ "java/lang/invoke/VarHandle") {W : Nat} {rm : Room} {as' : Array Value} {sfc : List Addr} {Q : Option Value → Heap → Prop} (hM : Ct l Z EL a0 true z bytes maxL ret [] rm as' h sfc Q) (hsf : ∀ x ∈ sfc, x ∈ sf) (hf : rm.frames + 1 ≤ R.frames) (hl : W + (maxL + 11) + rm.locals ≤ R.locals)
    {b : Addr} (E : Exa Z h b C) {g : JFrame} (hg : g.method = m) (hsize : g.locals.size = c.maxLocals) {argsL rest : List Value} (has : (.ref b :: argsL).toArray = as') (hlen : ∀ sig, parseMethodDescriptor y.desc = some sig → argsL.length = sig.parameters.length) (hstack : g.stack = argsL.reverse ++ .ref b :: rest) (hW : 2 * g.monitorRoom + (rest.map fun v => v.category).sum ≤ W) (hd : decode c.code g.pc = .ok (.invokevirtual index, 3)) (hc : k + rm.cells ≤ R.cells) (hn : n + rm.slots ≤ R.slots)
    (K : ∀ T' h' v, Wk p l e R s m args below meth c Z EL a0 true T' h' (k + rm.cells) (n + rm.slots) sf → h.size ≤ h'.size → Q v h' → Go p e below Φ T' { g with pc := g.pc + 3, stack := v.toList ++ rest }) : Go p e below Φ T g := by
  obtain ⟨hE, vm0, locs, k0, X, eT, r, hk, hZ, N, O, C, S⟩ := H
  obtain ⟨cq, kq, qa, qb, qc⟩ := isOf (s := s.setVm vm0) hZ eT E
  obtain ⟨v, vm1, B, hWm, X', h2, gr, ⟨L, ⟨hL, O', hQ⟩, el, ek, en, C'⟩, st⟩ := X.virtualBackS hx (own_found r hown) (mvT hZ w1) (mvT hZ w2) (hnf vm0 hZ) (mvT hZ w3) (mvT hZ w5) hy (own_backW hM w4 w6 hf hl hZ hE C.1 fun x hx => S x (hsf x hx)) qa qc hg hsize (Steps.refl _) hlen hstack hW hd fun _ _ => ⟨has, eT, hc, hn⟩
  exact Go.by st (K B.U _ v (own_wide hE X' r hk eT h2 gr hZ N C S hL O' el ek en C') C'.2.1 hQ)
theorem own_nf {C : String} {y z : MethodName} (w3 : (Cond.selects C y z).before a0 Z = true) (q : y = z) : ∀ vm0, Z.Warmed39 vm0 → NotFace (s.setVm vm0) y := fun vm0 hZ => by
  subst q; exact notFace_of_selects (args := #[]) (mvT (s := s.setVm vm0) hZ w3)
theorem own_ifaceW (H : Wk p l e R s m args below meth c Z EL a0 true T h k n sf) (hx : p.tables.exec = Jvm.exec) {own C : String} {index count : Nat} {xi y : MethodName} {bytes : ByteArray} {maxL : Nat} {ret : Option FieldType} (hown : s.vm.findClass own = some m.cls) (w1 : (Cond.methodLink own index xi).before a0 Z = true) (w2 : (Cond.declares xi).before a0 Z = true) (w3 : (Cond.interfaceMethod xi.cls xi.cls xi.name xi.desc).before a0 Z = true) (w3f : ((Cond.interfaceMethod xi.cls xi.cls xi.name xi.desc).onTables && (Cond.interfaceMethod xi.cls xi.cls xi.name xi.desc).keepsFace) = true) (w5 : (Cond.selects C xi y).before a0 Z = true) (w6 : (Cond.instanceMethod y).before a0 Z = true) (w7 : (Cond.publicMethod y).before a0 Z = true) (w8 : (Cond.unhidden C xi.name xi.desc).before a0 Z = true) (w9 : (Cond.castable C xi.cls).before a0 Z = true) (w10 : (Cond.initialized y.cls).before a0 Z = true) (w4 : (Cond.code y bytes maxL ret).before a0 Z = true)
    (hy : xi.cls ≠ "java/lang/invoke/MethodHandle" ∧ xi.cls ≠ "java/lang/invoke/VarHandle") {W : Nat} {rm : Room} {as' : Array Value} {sfc : List Addr} {Q : Option Value → Heap → Prop} (hM : Ct l Z EL a0 true y bytes maxL ret [] rm as' h sfc Q) (hsf : ∀ x ∈ sfc, x ∈ sf) (hf : rm.frames + 1 ≤ R.frames) (hl : W + (maxL + 11) + rm.locals ≤ R.locals)
    {b : Addr} (E : Exa Z h b C) {g : JFrame} (hg : g.method = m) (hsize : g.locals.size = c.maxLocals) {argsL rest : List Value} (has : (.ref b :: argsL).toArray = as') (hlen : ∀ sig, parseMethodDescriptor xi.desc = some sig → argsL.length = sig.parameters.length) (hstack : g.stack = argsL.reverse ++ .ref b :: rest) (hW : 2 * g.monitorRoom + (rest.map fun v => v.category).sum ≤ W) (hd : decode c.code g.pc = .ok (.invokeinterface index count, 5)) (hc : k + rm.cells ≤ R.cells) (hn : n + rm.slots ≤ R.slots)
    (K : ∀ T' h' v, Wk p l e R s m args below meth c Z EL a0 true T' h' (k + rm.cells) (n + rm.slots) sf → h.size ≤ h'.size → Q v h' → Go p e below Φ T' { g with pc := g.pc + 5, stack := v.toList ++ rest }) : Go p e below Φ T g := by
  obtain ⟨hE, vm0, locs, k0, X, eT, r, hk, hZ, N, O, C, S⟩ := H
  obtain ⟨cq, kq, qa, qb, qc⟩ := isOf (s := s.setVm vm0) hZ eT E
  obtain ⟨v, vm1, B, hWm, X', h2, gr, ⟨L, ⟨hL, O', hQ⟩, el, ek, en, C'⟩, st⟩ := X.interfaceBackS hx (own_found r hown) (mvT hZ w1) (mvT hZ w2) (mvT hZ w3 w3f) (mvT hZ w5) (mvT hZ w6) (mvT hZ w7) (mvT hZ w8) (mvT hZ w9) hy (own_backW hM w4 w10 hf hl hZ hE C.1 fun x hx => S x (hsf x hx)) qa qb qc hg hsize (Steps.refl _) hlen hstack hW hd fun _ _ => ⟨has, eT, hc, hn⟩
  exact Go.by st (K B.U _ v (own_wide hE X' r hk eT h2 gr hZ N C S hL O' el ek en C') C'.2.1 hQ)
end OwnLayer
end Jvm.Pilot.@@N@@
namespace Jvm.Pilot.@@N@@
open Jvm Jvm.ClassFile Sem Op Lib Jvm.Free Jvm.Stand Jvm.LawKit Jvm.RoadKit Bundle
section OwnStr
variable {p : Program} {l : Launch} {e : Env} {R : Room} {s : State} {m : MethodId} {args : Array Value} {below : List Frame} {meth : Method} {c : Code} {Z : State} {EL : List (String × Nat)} {a0 : Array Value} {T : State} {h h' : Heap} {k n : Nat} {sf : List Addr} {w : Bool} {Φ : State → Prop} {r : Addr} {cs : List Int32}
/-- in the heap h, r is a String of the chars cs -/
def own_str (Z : State) (h : Heap) (r : Addr) (cs : List Int32) : Prop := ∃ (t : Addr) (kb : ClassId) (cd N2 : Int32) (vs : List Value), Exa Z h r "java/lang/String" ∧ Fld Z h r "java/lang/String" "coder" "B" (.int cd) ∧ Fld Z h r "java/lang/String" "value" "[B" (.ref t) ∧ Arv Z h t kb .byte N2 vs (.int 0) ∧ StrChars.Road.CodA cs cd N2 vs ∧ ∀ c ∈ cs, ¬ c < 0 ∧ ¬ (65535 : Int32) < c
theorem own_str.exa (S : own_str Z h r cs) : Exa Z h r "java/lang/String" := by obtain ⟨t, kb, cd, N2, vs, E, -⟩ := S; exact E
theorem own_str.lt (S : own_str Z h r cs) : r < h.size := S.exa.lt
theorem own_str.ext (S : own_str Z h r cs) (E : Ext h h') : own_str Z h' r cs := by obtain ⟨t, kb, cd, N2, vs, a, b, c, d, e⟩ := S; exact ⟨t, kb, cd, N2, vs, a.ext E, b.ext E, c.ext E, d.ext E, e⟩
def own_nstr (Z : State) (a0 : Array Value) (h : Heap) (x : Addr) : Prop := ∃ C k, Exa Z h x C ∧ C ≠ "java/lang/String" ∧ (Jvm.Cond.instantiable C k).before a0 Z = true
theorem own_str.keep {ws : List Addr} (S : own_str Z h r cs) (K : Keep h h' ws) (q : ∀ x ∈ ws, own_nstr Z a0 h x) : own_str Z h' r cs := by
  obtain ⟨t, kb, cd, N2, vs, a, b, c, d, e⟩ := S
  have n1 : r ∉ ws := fun hm => by obtain ⟨C, k, E, hn, -⟩ := q _ hm; exact ne_exa E a hn rfl
  have n2 : t ∉ ws := fun hm => by
    obtain ⟨C, k, E, hn, wi⟩ := q _ hm
    obtain ⟨cl, A, -⟩ := d
    exact ne_arr E wi A rfl
  exact ⟨t, kb, cd, N2, vs, a.keep K, b.keep K n1, c.keep K n1, d.keep K n2, e⟩
theorem own_str.keep0 (S : own_str Z h r cs) (K : Keep h h' []) : own_str Z h' r cs := S.keep (a0 := #[]) K fun _ hx => nomatch hx
theorem own_str.chars (S : own_str Z h r cs) : ∀ c ∈ cs, ¬ c < 0 ∧ ¬ (65535 : Int32) < c := by obtain ⟨t, kb, cd, N2, vs, a, b, c, d, e, f⟩ := S; exact f
theorem own_up {cs : List Int32} (hp : ∀ c ∈ cs, ¬ c < 0 ∧ ¬ (255 : Int32) < c) : ∀ c ∈ cs, ¬ c < 0 ∧ ¬ (65535 : Int32) < c := fun c hc => ⟨(hp c hc).1, fun q => (hp c hc).2 (by
  have e1 : (255 : Int32).toInt = 255 := by decide
  have e2 : (65535 : Int32).toInt = 65535 := by decide
  rw [Int32.lt_iff_toInt_lt, e2] at q; rw [Int32.lt_iff_toInt_lt, e1]; omega)⟩
theorem own_str.empty {t : Addr} {kb : ClassId} (a : Exa Z h r "java/lang/String") (b : Fld Z h r "java/lang/String" "coder" "B" (.int 0)) (c : Fld Z h r "java/lang/String" "value" "[B" (.ref t)) (d : Arv Z h t kb .byte 0 [] (.int 0)) : own_str Z h r [] :=
  ⟨t, kb, 0, 0, [], a, b, c, d, StrChars.Road.codOf rfl (fun _ hq => nomatch hq), fun _ hq => nomatch hq⟩
theorem own_newS (H : Wk p l e R s m args below meth c Z EL a0 w T h k n sf) (hx : p.tables.exec = Jvm.exec) {own : String} {index : Nat} {bytes : ByteArray} {maxL : Nat} (hown : s.vm.findClass own = some m.cls) (w1 : (Jvm.Cond.methodLink own index (⟨"java/lang/String", "<init>", "([C)V"⟩ : MethodName)).before a0 Z = true) (w2 : (Jvm.Cond.instanceMethod (⟨"java/lang/String", "<init>", "([C)V"⟩ : MethodName)).before a0 Z = true) (w4 : (Jvm.Cond.code (⟨"java/lang/String", "<init>", "([C)V"⟩ : MethodName) bytes maxL none).before a0 Z = true)
    (hws : ∀ d ∈ StrChars.Road.words, d.before a0 Z = true) {kI : Nat} (wi : (Jvm.Cond.instantiable "java/lang/String" kI).before a0 Z = true) {x b : Addr} {kC : ClassId} {N z : Int32} {d v0 c0 : Value} {ln W : Nat} (Ex : Exa Z h x "java/lang/String") (Fv : Fld Z h x "java/lang/String" "value" "[B" v0) (Fc : Fld Z h x "java/lang/String" "coder" "B" c0) (V : Arv Z h b kC .char N (cs.map Value.int) d) (Sc : Sta Z Z.heap "java/lang/String" "COMPACT_STRINGS" "Z" (.int z)) (hz : ¬ z = 0)
    (hn' : cs.length = ln) (hN : N = Int32.ofNat ln) (l0 : 0 < ln) (l2 : ln ≤ 4000) (hp : ∀ c ∈ cs, ¬ c < 0 ∧ ¬ (255 : Int32) < c) (hfr : 4 ≤ R.frames) (hlo : W + 65 ≤ R.locals) (hxs : Z.heap.size ≤ x) (hxm : x ∈ sf)
    {g : JFrame} (hg : g.method = m) (hsize : g.locals.size = c.maxLocals) {rest : List Value} (hstack : g.stack = .ref b :: .ref x :: rest) (hW : 2 * g.monitorRoom + (rest.map fun v => v.category).sum ≤ W) (hd : decode c.code g.pc = .ok (.invokespecial index, 3)) (hc : k + 1 ≤ R.cells) (hn : n + ln ≤ R.slots)
    (K : ∀ T' h', Wk p l e R s m args below meth c Z EL a0 w T' h' (k + 1) (n + ln) sf → Keep h h' [x] → own_str Z h' x cs → Go p e below Φ T' { g with pc := g.pc + 3, stack := rest }) : Go p e below Φ T g := by
  have O := H.old
  refine own_specialB H hx (y := (⟨"java/lang/String", "<init>", "([C)V"⟩ : MethodName)) rfl hown w1 w2 w4 (by decide) (W := W) (kc := 1) (kn := ln) (as' := #[.ref x, .ref b]) (fun v h' L => StrChars.Road.QV Z x N (cs.map fun c => c.toInt8.toInt32) h Z.heap.size v h' L)
    (fun vm0 hZ _ => StrChars.Road.backV (s := s.setVm vm0) hZ hws wi hxs O.1 Ex Fv Fc V (Sc.ext O) hz hn' hN l0 l2 hp rfl hfr hlo) (ws := [x]) (fun v h' L q => ⟨q.2.1, q.2.2.1⟩) (allS ⟨hxs, own_mem hxm⟩ all0) hg hsize (a := x) (argsL := [.ref b]) (rest := rest) rfl (lenOf (by decide : parseMethodDescriptor "([C)V" = some ⟨[.array .char], none⟩) rfl) hstack hW hd hc hn ?_
  intro T' h' v L H' q
  obtain ⟨rfl, -, Kp, E', F', t, kb, -, -, -, Fv', V'⟩ := q
  subst hN
  exact K T' h' H' Kp ⟨t, kb, 0, _, _, E', F', Fv', V', StrChars.Road.codOf hn' fun c hc => (hp c hc).2, own_up hp⟩
end OwnStr
end Jvm.Pilot.@@N@@
namespace Jvm.Pilot.@@N@@
open Jvm Jvm.ClassFile Sem Op Lib Jvm.Free Jvm.Stand Jvm.LawKit Jvm.RoadKit Bundle
section OwnStrEq
variable {p : Program} {l : Launch} {e : Env} {R : Room} {s : State} {m : MethodId} {args : Array Value} {below : List Frame} {meth : Method} {c : Code} {Z : State} {EL : List (String × Nat)} {a0 : Array Value} {T : State} {h h' : Heap} {k n : Nat} {sf : List Addr} {w : Bool} {Φ : State → Prop} {r : Addr} {cs : List Int32}
theorem own_eqS (H : Wk p l e R s m args below meth c Z EL a0 w T h k n sf) (hx : p.tables.exec = Jvm.exec) {own : String} {index : Nat} (hown : s.vm.findClass own = some m.cls) (w1 : (Jvm.Cond.methodLink own index (⟨"java/lang/String", "equals", "(Ljava/lang/Object;)Z"⟩ : MethodName)).before a0 Z = true) (w2 : (Jvm.Cond.declares (⟨"java/lang/String", "equals", "(Ljava/lang/Object;)Z"⟩ : MethodName)).before a0 Z = true) (w3 : (Jvm.Cond.selects "java/lang/String" (⟨"java/lang/String", "equals", "(Ljava/lang/Object;)Z"⟩ : MethodName) (⟨"java/lang/String", "equals", "(Ljava/lang/Object;)Z"⟩ : MethodName)).before a0 Z = true) (w4 : (Jvm.Cond.instanceMethod (⟨"java/lang/String", "equals", "(Ljava/lang/Object;)Z"⟩ : MethodName)).before a0 Z = true)
    (hws : ∀ d ∈ StrChars.Road.wordsEq, d.before a0 Z = true) {kI : Nat} (wi : (Jvm.Cond.instantiable "java/lang/String" kI).before a0 Z = true) {x y : Addr} {ds : List Int32} {z : Int32} {W : Nat} (Sx : own_str Z h x cs) (Sy : own_str Z h y ds) (lx : cs.length ≤ 4000) (ly : ds.length ≤ 4000) (Sc : Sta Z Z.heap "java/lang/String" "COMPACT_STRINGS" "Z" (.int z)) (hz : ¬ z = 0) (hfr : 2 ≤ R.frames) (hlo : W + 28 ≤ R.locals)
    {g : JFrame} (hg : g.method = m) (hsize : g.locals.size = c.maxLocals) {rest : List Value} (hstack : g.stack = .ref y :: .ref x :: rest) (hW : 2 * g.monitorRoom + (rest.map fun v => v.category).sum ≤ W) (hd : decode c.code g.pc = .ok (.invokevirtual index, 3)) (hc : k + 0 ≤ R.cells) (hn : n + 0 ≤ R.slots)
    (K : ∀ T', Wk p l e R s m args below meth c Z EL a0 w T' h k n sf → Go p e below Φ T' { g with pc := g.pc + 3, stack := .int (if cs = ds then 1 else 0) :: rest }) : Go p e below Φ T g := by
  have O := H.old
  have Ex := Sx.exa
  obtain ⟨t, kb, cd, N2, vs, a, b, c1, d, e1, f⟩ := Sx
  obtain ⟨t', kb', cd', N2', vs', a', b', c1', d', e1', f'⟩ := Sy
  refine own_virtualB H hx (y := (⟨"java/lang/String", "equals", "(Ljava/lang/Object;)Z"⟩ : MethodName)) (z := (⟨"java/lang/String", "equals", "(Ljava/lang/Object;)Z"⟩ : MethodName)) hown w1 w2 w3 rfl w4 (by decide) (W := W) (kc := 0) (kn := 0) (as' := #[.ref x, .ref y]) (fun v h' L => ((v = some (.int 1) ∧ cs = ds) ∨ (v = some (.int 0) ∧ ¬ cs = ds)) ∧ L = [] ∧ h' = h)
    (fun vm0 hZ _ => StrChars.Road.eqW (s := s.setVm vm0) hZ hws wi a c1 b d e1 f lx a' c1' b' d' e1' f' ly (Sc.ext O) hz hfr hlo) (ws := []) (fun v h' L q => ⟨q.2.1 ▸ Fr.nil _, q.2.2 ▸ Keep.refl _ _⟩) all0 Ex hg hsize (argsL := [.ref y]) (rest := rest) rfl (lenOf (by decide : parseMethodDescriptor "(Ljava/lang/Object;)Z" = some ⟨[.object "java/lang/Object"], some .boolean⟩) rfl) hstack hW hd hc hn ?_
  intro T' h' v L H' q
  obtain ⟨q, rfl, rfl⟩ := q
  have e0 : v = some (.int (if cs = ds then 1 else 0)) := by
    rcases q with ⟨q1, q2⟩ | ⟨q1, q2⟩
    · rw [q1, if_pos q2]
    · rw [q1, if_neg q2]
  subst e0
  exact K T' H'
theorem own_instNull (H : Wk p l e R s m args below meth c Z EL a0 w T h k n sf) (hx : p.tables.exec = Jvm.exec) {index : Nat} {g : JFrame} (hg : g.method = m) {rest : List Value} (hs : g.stack = .null :: rest) (hd : decode c.code g.pc = .ok (.instanceof index, 3))
    (K : Go p e below Φ T { g with pc := g.pc + 3, stack := .int 0 :: rest }) : Go p e below Φ T g := by
  obtain ⟨hE, vm0, locs, k0, X, eT, r, hk, hZ, N, O, C, S⟩ := H
  exact Go.of (X.instanceofNull hx hg hs hd) K
end OwnStrEq
end Jvm.Pilot.@@N@@
namespace Jvm.Pilot.@@N@@
open Jvm Jvm.ClassFile Sem Op Lib Jvm.Free Jvm.Stand Jvm.LawKit Jvm.RoadKit Bundle Jvm.Pilot.@@N@@.Jvm.D
theorem ef_rm_s2 (m : MethodId) (x0 : Addr) (x1 : Addr) (x2 : Int32) (x3 : Int32) : entryFrame m #[(.ref x0), (.ref x1), (.int x2), (.int x3), .null] 6 = mkF m 0 #[.val (.ref x0), .val (.ref x1), .val (.int x2), .val (.int x3), .val .null, .unset] [] := by first | (simp [entryFrame, mkF, argsToLocals, Value.category]; done) | rfl
theorem pn_0 : plainName "java/lang/String" = true := by first | (simp [plainName, overriddenIn]; done) | decide +kernel
theorem d_jdk_42_149_0 : decode jdk_42_method_149_code 0 = .ok (.aload_n 0, 1) := by decide +kernel
theorem d_jdk_42_149_1 : decode jdk_42_method_149_code 1 = .ok (.invokespecial 1, 3) := by decide +kernel
theorem d_jdk_42_149_4 : decode jdk_42_method_149_code 4 = .ok (.iload_n 3, 1) := by decide +kernel
theorem d_jdk_42_149_5 : decode jdk_42_method_149_code 5 = .ok (.ifCond .ne 22, 3) := by decide +kernel
theorem d_jdk_42_149_8 : decode jdk_42_method_149_code 8 = .ok (.aload_n 0, 1) := by decide +kernel
theorem d_jdk_42_149_9 : decode jdk_42_method_149_code 9 = .ok (.ldc 7, 2) := by decide +kernel
theorem d_jdk_42_149_11 : decode jdk_42_method_149_code 11 = .ok (.getfield 9, 3) := by decide +kernel
theorem d_jdk_42_149_14 : decode jdk_42_method_149_code 14 = .ok (.putfield 9, 3) := by decide +kernel
theorem d_jdk_42_149_17 : decode jdk_42_method_149_code 17 = .ok (.aload_n 0, 1) := by decide +kernel
theorem d_jdk_42_149_18 : decode jdk_42_method_149_code 18 = .ok (.ldc 7, 2) := by decide +kernel
theorem d_jdk_42_149_20 : decode jdk_42_method_149_code 20 = .ok (.getfield 15, 3) := by decide +kernel
theorem d_jdk_42_149_23 : decode jdk_42_method_149_code 23 = .ok (.putfield 15, 3) := by decide +kernel
theorem d_jdk_42_149_26 : decode jdk_42_method_149_code 26 = .ok (.return_, 1) := by decide +kernel
theorem ef_rm_s1 (m : MethodId) (x0 : Addr) (x1 : Addr) : entryFrame m #[(.ref x0), (.ref x1)] 2 = mkF m 0 #[.val (.ref x0), .val (.ref x1)] [] := by first | (simp [entryFrame, mkF, argsToLocals, Value.category]; done) | rfl
theorem d_jdk_42_3_0 : decode jdk_42_method_3_code 0 = .ok (.aload_n 0, 1) := by decide +kernel
theorem d_jdk_42_3_1 : decode jdk_42_method_3_code 1 = .ok (.aload_n 1, 1) := by decide +kernel
theorem d_jdk_42_3_2 : decode jdk_42_method_3_code 2 = .ok (.iconst 0, 1) := by decide +kernel
theorem d_jdk_42_3_3 : decode jdk_42_method_3_code 3 = .ok (.aload_n 1, 1) := by decide +kernel
theorem d_jdk_42_3_4 : decode jdk_42_method_3_code 4 = .ok (.arraylength, 1) := by decide +kernel
theorem d_jdk_42_3_5 : decode jdk_42_method_3_code 5 = .ok (.aconst_null, 1) := by decide +kernel
theorem d_jdk_42_3_6 : decode jdk_42_method_3_code 6 = .ok (.invokespecial 27, 3) := by decide +kernel
theorem pd_0 : parseMethodDescriptor "([CIILjava/lang/Void;)V" = some ⟨[(.array .char), .int, .int, (.object "java/lang/Void")], none⟩ := by decide +kernel
theorem d_jdk_42_3_9 : decode jdk_42_method_3_code 9 = .ok (.return_, 1) := by decide +kernel
theorem ef_rm_str (m : MethodId) (x0 : Int32) (x1 : Int32) (x2 : Int32) : entryFrame m #[(.int x0), (.int x1), (.int x2)] 3 = mkF m 0 #[.val (.int x0), .val (.int x1), .val (.int x2)] [] := by first | (simp [entryFrame, mkF, argsToLocals, Value.category]; done) | rfl
theorem pn_1 : plainName "com/example/entitled/entitled/lang/TokenIsOperatorPinLaw" = true := by first | (simp [plainName, overriddenIn]; done) | decide +kernel
theorem d_2_0 : decode method_2_code 0 = .ok (.iload_n 0, 1) := by decide +kernel
theorem d_2_1 : decode method_2_code 1 = .ok (.ifCond .ne 14, 3) := by decide +kernel
theorem d_2_4 : decode method_2_code 4 = .ok (.new 7, 3) := by decide +kernel
theorem d_2_7 : decode method_2_code 7 = .ok (.dup, 1) := by decide +kernel
theorem d_2_8 : decode method_2_code 8 = .ok (.iconst 0, 1) := by decide +kernel
theorem d_2_9 : decode method_2_code 9 = .ok (.newarray .char, 2) := by decide +kernel
theorem d_2_11 : decode method_2_code 11 = .ok (.invokespecial 9, 3) := by decide +kernel
theorem pd_1 : parseMethodDescriptor "([C)V" = some ⟨[(.array .char)], none⟩ := by decide +kernel
theorem d_2_14 : decode method_2_code 14 = .ok (.areturn, 1) := by decide +kernel
theorem d_2_15 : decode method_2_code 15 = .ok (.iload_n 0, 1) := by decide +kernel
theorem d_2_16 : decode method_2_code 16 = .ok (.iconst 1, 1) := by decide +kernel
theorem d_2_17 : decode method_2_code 17 = .ok (.if_icmp .ne 18, 3) := by decide +kernel
theorem d_2_20 : decode method_2_code 20 = .ok (.new 7, 3) := by decide +kernel
theorem d_2_23 : decode method_2_code 23 = .ok (.dup, 1) := by decide +kernel
theorem d_2_24 : decode method_2_code 24 = .ok (.iconst 1, 1) := by decide +kernel
theorem d_2_25 : decode method_2_code 25 = .ok (.newarray .char, 2) := by decide +kernel
theorem d_2_27 : decode method_2_code 27 = .ok (.dup, 1) := by decide +kernel
theorem d_2_28 : decode method_2_code 28 = .ok (.iconst 0, 1) := by decide +kernel
theorem d_2_29 : decode method_2_code 29 = .ok (.iload_n 1, 1) := by decide +kernel
theorem d_2_30 : decode method_2_code 30 = .ok (.castore, 1) := by decide +kernel
theorem d_2_31 : decode method_2_code 31 = .ok (.invokespecial 9, 3) := by decide +kernel
theorem d_2_34 : decode method_2_code 34 = .ok (.areturn, 1) := by decide +kernel
theorem d_2_35 : decode method_2_code 35 = .ok (.new 7, 3) := by decide +kernel
theorem d_2_38 : decode method_2_code 38 = .ok (.dup, 1) := by decide +kernel
theorem d_2_39 : decode method_2_code 39 = .ok (.iconst 2, 1) := by decide +kernel
theorem d_2_40 : decode method_2_code 40 = .ok (.newarray .char, 2) := by decide +kernel
theorem d_2_42 : decode method_2_code 42 = .ok (.dup, 1) := by decide +kernel
theorem d_2_43 : decode method_2_code 43 = .ok (.iconst 0, 1) := by decide +kernel
theorem d_2_44 : decode method_2_code 44 = .ok (.iload_n 1, 1) := by decide +kernel
theorem d_2_45 : decode method_2_code 45 = .ok (.castore, 1) := by decide +kernel
theorem d_2_46 : decode method_2_code 46 = .ok (.dup, 1) := by decide +kernel
theorem d_2_47 : decode method_2_code 47 = .ok (.iconst 1, 1) := by decide +kernel
theorem d_2_48 : decode method_2_code 48 = .ok (.iload_n 2, 1) := by decide +kernel
theorem d_2_49 : decode method_2_code 49 = .ok (.castore, 1) := by decide +kernel
theorem d_2_50 : decode method_2_code 50 = .ok (.invokespecial 9, 3) := by decide +kernel
theorem d_2_53 : decode method_2_code 53 = .ok (.areturn, 1) := by decide +kernel
theorem ef_rm_kind (m : MethodId) (x0 : Int32) : entryFrame m #[(.int x0)] 1 = mkF m 0 #[.val (.int x0)] [] := by first | (simp [entryFrame, mkF, argsToLocals, Value.category]; done) | rfl
theorem d_3_0 : decode method_3_code 0 = .ok (.iload_n 0, 1) := by decide +kernel
theorem d_3_1 : decode method_3_code 1 = .ok (.ifCond .ne 7, 3) := by decide +kernel
theorem d_3_4 : decode method_3_code 4 = .ok (.getstatic 12, 3) := by decide +kernel
theorem d_3_7 : decode method_3_code 7 = .ok (.areturn, 1) := by decide +kernel
theorem d_3_8 : decode method_3_code 8 = .ok (.iload_n 0, 1) := by decide +kernel
theorem d_3_9 : decode method_3_code 9 = .ok (.iconst 1, 1) := by decide +kernel
theorem d_3_10 : decode method_3_code 10 = .ok (.if_icmp .ne 7, 3) := by decide +kernel
theorem d_3_13 : decode method_3_code 13 = .ok (.getstatic 18, 3) := by decide +kernel
theorem d_3_16 : decode method_3_code 16 = .ok (.areturn, 1) := by decide +kernel
theorem d_3_17 : decode method_3_code 17 = .ok (.iload_n 0, 1) := by decide +kernel
theorem d_3_18 : decode method_3_code 18 = .ok (.iconst 2, 1) := by decide +kernel
theorem d_3_19 : decode method_3_code 19 = .ok (.if_icmp .ne 7, 3) := by decide +kernel
theorem d_3_22 : decode method_3_code 22 = .ok (.getstatic 21, 3) := by decide +kernel
theorem d_3_25 : decode method_3_code 25 = .ok (.areturn, 1) := by decide +kernel
theorem d_3_26 : decode method_3_code 26 = .ok (.iload_n 0, 1) := by decide +kernel
theorem d_3_27 : decode method_3_code 27 = .ok (.iconst 3, 1) := by decide +kernel
theorem d_3_28 : decode method_3_code 28 = .ok (.if_icmp .ne 7, 3) := by decide +kernel
theorem d_3_31 : decode method_3_code 31 = .ok (.getstatic 24, 3) := by decide +kernel
theorem d_3_34 : decode method_3_code 34 = .ok (.areturn, 1) := by decide +kernel
theorem d_3_35 : decode method_3_code 35 = .ok (.iload_n 0, 1) := by decide +kernel
theorem d_3_36 : decode method_3_code 36 = .ok (.iconst 4, 1) := by decide +kernel
theorem d_3_37 : decode method_3_code 37 = .ok (.if_icmp .ne 7, 3) := by decide +kernel
theorem d_3_40 : decode method_3_code 40 = .ok (.getstatic 27, 3) := by decide +kernel
theorem d_3_43 : decode method_3_code 43 = .ok (.areturn, 1) := by decide +kernel
theorem d_3_44 : decode method_3_code 44 = .ok (.getstatic 30, 3) := by decide +kernel
theorem d_3_47 : decode method_3_code 47 = .ok (.areturn, 1) := by decide +kernel
theorem ef_rm_rec (m : MethodId) (x0 : Addr) : entryFrame m #[(.ref x0)] 1 = mkF m 0 #[.val (.ref x0)] [] := by first | (simp [entryFrame, mkF, argsToLocals, Value.category]; done) | rfl
theorem pn_2 : plainName "java/lang/Record" = true := by first | (simp [plainName, overriddenIn]; done) | decide +kernel
theorem d_jdk_30_1_0 : decode jdk_30_method_1_code 0 = .ok (.aload_n 0, 1) := by decide +kernel
theorem d_jdk_30_1_1 : decode jdk_30_method_1_code 1 = .ok (.invokespecial 1, 3) := by decide +kernel
theorem d_jdk_30_1_4 : decode jdk_30_method_1_code 4 = .ok (.return_, 1) := by decide +kernel
theorem ef_rm_ti (m : MethodId) (x0 : Addr) (x1 : Value) (x2 : Addr) (x3 : Int32) (x4 : Int32) (hx1 : x1.isRef = true) : entryFrame m #[(.ref x0), x1, (.ref x2), (.int x3), (.int x4)] 5 = mkF m 0 #[.val (.ref x0), .val x1, .val (.ref x2), .val (.int x3), .val (.int x4)] [] := by rcases ref_cases hx1 with rfl | ⟨y1, rfl⟩ <;> first | (simp [entryFrame, mkF, argsToLocals, Value.category]; done) | rfl
theorem pn_3 : plainName "com/example/entitled/entitled/lang/Token" = true := by first | (simp [plainName, overriddenIn]; done) | decide +kernel
theorem d_prog_11_1_0 : decode prog_11_method_1_code 0 = .ok (.aload_n 0, 1) := by decide +kernel
theorem d_prog_11_1_1 : decode prog_11_method_1_code 1 = .ok (.invokespecial 1, 3) := by decide +kernel
theorem pd_2 : parseMethodDescriptor "()V" = some ⟨[], none⟩ := by decide +kernel
theorem d_prog_11_1_4 : decode prog_11_method_1_code 4 = .ok (.aload_n 0, 1) := by decide +kernel
theorem d_prog_11_1_5 : decode prog_11_method_1_code 5 = .ok (.aload_n 1, 1) := by decide +kernel
theorem d_prog_11_1_6 : decode prog_11_method_1_code 6 = .ok (.putfield 7, 3) := by decide +kernel
theorem d_prog_11_1_9 : decode prog_11_method_1_code 9 = .ok (.aload_n 0, 1) := by decide +kernel
theorem d_prog_11_1_10 : decode prog_11_method_1_code 10 = .ok (.aload_n 2, 1) := by decide +kernel
theorem d_prog_11_1_11 : decode prog_11_method_1_code 11 = .ok (.putfield 13, 3) := by decide +kernel
theorem d_prog_11_1_14 : decode prog_11_method_1_code 14 = .ok (.aload_n 0, 1) := by decide +kernel
theorem d_prog_11_1_15 : decode prog_11_method_1_code 15 = .ok (.iload_n 3, 1) := by decide +kernel
theorem d_prog_11_1_16 : decode prog_11_method_1_code 16 = .ok (.putfield 17, 3) := by decide +kernel
theorem d_prog_11_1_19 : decode prog_11_method_1_code 19 = .ok (.aload_n 0, 1) := by decide +kernel
theorem d_prog_11_1_20 : decode prog_11_method_1_code 20 = .ok (.iload 4, 2) := by decide +kernel
theorem d_prog_11_1_22 : decode prog_11_method_1_code 22 = .ok (.putfield 21, 3) := by decide +kernel
theorem d_prog_11_1_25 : decode prog_11_method_1_code 25 = .ok (.return_, 1) := by decide +kernel
theorem ef_rm_eqN (m : MethodId) (x0 : Addr) : entryFrame m #[(.ref x0), .null] 3 = mkF m 0 #[.val (.ref x0), .val .null, .unset] [] := by first | (simp [entryFrame, mkF, argsToLocals, Value.category]; done) | rfl
theorem d_jdk_42_66_0 : decode jdk_42_method_66_code 0 = .ok (.aload_n 0, 1) := by decide +kernel
theorem d_jdk_42_66_1 : decode jdk_42_method_66_code 1 = .ok (.aload_n 1, 1) := by decide +kernel
theorem d_jdk_42_66_2 : decode jdk_42_method_66_code 2 = .ok (.if_acmp .ne 5, 3) := by decide +kernel
theorem d_jdk_42_66_7 : decode jdk_42_method_66_code 7 = .ok (.aload_n 1, 1) := by decide +kernel
theorem d_jdk_42_66_8 : decode jdk_42_method_66_code 8 = .ok (.instanceof 10, 3) := by decide +kernel
theorem d_jdk_42_66_11 : decode jdk_42_method_66_code 11 = .ok (.ifCond .eq 43, 3) := by decide +kernel
theorem d_jdk_42_66_54 : decode jdk_42_method_66_code 54 = .ok (.iconst 0, 1) := by decide +kernel
theorem d_jdk_42_66_55 : decode jdk_42_method_66_code 55 = .ok (.ireturn, 1) := by decide +kernel
theorem ef_rm_is (m : MethodId) (x0 : Addr) (x1 : Value) (x2 : Addr) (hx1 : x1.isRef = true) : entryFrame m #[(.ref x0), x1, (.ref x2)] 3 = mkF m 0 #[.val (.ref x0), .val x1, .val (.ref x2)] [] := by rcases ref_cases hx1 with rfl | ⟨y1, rfl⟩ <;> first | (simp [entryFrame, mkF, argsToLocals, Value.category]; done) | rfl
theorem d_prog_11_2_0 : decode prog_11_method_2_code 0 = .ok (.aload_n 0, 1) := by decide +kernel
theorem d_prog_11_2_1 : decode prog_11_method_2_code 1 = .ok (.getfield 7, 3) := by decide +kernel
theorem d_prog_11_2_4 : decode prog_11_method_2_code 4 = .ok (.aload_n 1, 1) := by decide +kernel
theorem d_prog_11_2_5 : decode prog_11_method_2_code 5 = .ok (.if_acmp .ne 18, 3) := by decide +kernel
theorem d_prog_11_2_8 : decode prog_11_method_2_code 8 = .ok (.aload_n 0, 1) := by decide +kernel
theorem d_prog_11_2_9 : decode prog_11_method_2_code 9 = .ok (.getfield 13, 3) := by decide +kernel
theorem d_prog_11_2_12 : decode prog_11_method_2_code 12 = .ok (.aload_n 2, 1) := by decide +kernel
theorem d_prog_11_2_13 : decode prog_11_method_2_code 13 = .ok (.invokevirtual 24, 3) := by decide +kernel
theorem d_prog_11_2_16 : decode prog_11_method_2_code 16 = .ok (.ifCond .eq 7, 3) := by decide +kernel
theorem d_prog_11_2_19 : decode prog_11_method_2_code 19 = .ok (.iconst 1, 1) := by decide +kernel
theorem d_prog_11_2_20 : decode prog_11_method_2_code 20 = .ok (.goto 4, 3) := by decide +kernel
theorem d_prog_11_2_24 : decode prog_11_method_2_code 24 = .ok (.ireturn, 1) := by decide +kernel
theorem d_prog_11_2_23 : decode prog_11_method_2_code 23 = .ok (.iconst 0, 1) := by decide +kernel
theorem ef_rm_isN (m : MethodId) (x0 : Addr) (x1 : Value) (hx1 : x1.isRef = true) : entryFrame m #[(.ref x0), x1, .null] 3 = mkF m 0 #[.val (.ref x0), .val x1, .val .null] [] := by rcases ref_cases hx1 with rfl | ⟨y1, rfl⟩ <;> first | (simp [entryFrame, mkF, argsToLocals, Value.category]; done) | rfl
theorem pd_3 : parseMethodDescriptor "(Ljava/lang/Object;)Z" = some ⟨[(.object "java/lang/Object")], some .boolean⟩ := by decide +kernel
theorem ef_rm_sy (m : MethodId) (x0 : Addr) (x1 : Addr) : entryFrame m #[(.ref x0), (.ref x1)] 2 = mkF m 0 #[.val (.ref x0), .val (.ref x1)] [] := by first | (simp [entryFrame, mkF, argsToLocals, Value.category]; done) | rfl
theorem d_prog_11_3_0 : decode prog_11_method_3_code 0 = .ok (.aload_n 0, 1) := by decide +kernel
theorem d_prog_11_3_1 : decode prog_11_method_3_code 1 = .ok (.getstatic 30, 3) := by decide +kernel
theorem d_prog_11_3_4 : decode prog_11_method_3_code 4 = .ok (.aload_n 1, 1) := by decide +kernel
theorem d_prog_11_3_5 : decode prog_11_method_3_code 5 = .ok (.invokevirtual 35, 3) := by decide +kernel
theorem pd_4 : parseMethodDescriptor "(Lcom/example/entitled/entitled/lang/Token$Kind;Ljava/lang/String;)Z" = some ⟨[(.object "com/example/entitled/entitled/lang/Token$Kind"), (.object "java/lang/String")], some .boolean⟩ := by decide +kernel
theorem d_prog_11_3_8 : decode prog_11_method_3_code 8 = .ok (.ireturn, 1) := by decide +kernel
theorem ef_rm_syN (m : MethodId) (x0 : Addr) : entryFrame m #[(.ref x0), .null] 2 = mkF m 0 #[.val (.ref x0), .val .null] [] := by first | (simp [entryFrame, mkF, argsToLocals, Value.category]; done) | rfl
theorem ef_rm_kw (m : MethodId) (x0 : Addr) (x1 : Addr) : entryFrame m #[(.ref x0), (.ref x1)] 2 = mkF m 0 #[.val (.ref x0), .val (.ref x1)] [] := by first | (simp [entryFrame, mkF, argsToLocals, Value.category]; done) | rfl
theorem d_prog_11_4_0 : decode prog_11_method_4_code 0 = .ok (.aload_n 0, 1) := by decide +kernel
theorem d_prog_11_4_1 : decode prog_11_method_4_code 1 = .ok (.getstatic 39, 3) := by decide +kernel
theorem d_prog_11_4_4 : decode prog_11_method_4_code 4 = .ok (.aload_n 1, 1) := by decide +kernel
theorem d_prog_11_4_5 : decode prog_11_method_4_code 5 = .ok (.invokevirtual 35, 3) := by decide +kernel
theorem d_prog_11_4_8 : decode prog_11_method_4_code 8 = .ok (.ireturn, 1) := by decide +kernel
theorem ef_rm_kwN (m : MethodId) (x0 : Addr) : entryFrame m #[(.ref x0), .null] 2 = mkF m 0 #[.val (.ref x0), .val .null] [] := by first | (simp [entryFrame, mkF, argsToLocals, Value.category]; done) | rfl
theorem ef_rm_op (m : MethodId) (x0 : Addr) (x1 : Addr) : entryFrame m #[(.ref x0), (.ref x1)] 2 = mkF m 0 #[.val (.ref x0), .val (.ref x1)] [] := by first | (simp [entryFrame, mkF, argsToLocals, Value.category]; done) | rfl
theorem d_prog_11_5_0 : decode prog_11_method_5_code 0 = .ok (.aload_n 0, 1) := by decide +kernel
theorem d_prog_11_5_1 : decode prog_11_method_5_code 1 = .ok (.aload_n 1, 1) := by decide +kernel
theorem d_prog_11_5_2 : decode prog_11_method_5_code 2 = .ok (.invokevirtual 42, 3) := by decide +kernel
theorem pd_5 : parseMethodDescriptor "(Ljava/lang/String;)Z" = some ⟨[(.object "java/lang/String")], some .boolean⟩ := by decide +kernel
theorem d_prog_11_5_5 : decode prog_11_method_5_code 5 = .ok (.ifCond .ne 11, 3) := by decide +kernel
theorem d_prog_11_5_16 : decode prog_11_method_5_code 16 = .ok (.iconst 1, 1) := by decide +kernel
theorem d_prog_11_5_17 : decode prog_11_method_5_code 17 = .ok (.goto 4, 3) := by decide +kernel
theorem d_prog_11_5_21 : decode prog_11_method_5_code 21 = .ok (.ireturn, 1) := by decide +kernel
theorem d_prog_11_5_8 : decode prog_11_method_5_code 8 = .ok (.aload_n 0, 1) := by decide +kernel
theorem d_prog_11_5_9 : decode prog_11_method_5_code 9 = .ok (.aload_n 1, 1) := by decide +kernel
theorem d_prog_11_5_10 : decode prog_11_method_5_code 10 = .ok (.invokevirtual 46, 3) := by decide +kernel
theorem d_prog_11_5_13 : decode prog_11_method_5_code 13 = .ok (.ifCond .eq 7, 3) := by decide +kernel
theorem d_prog_11_5_20 : decode prog_11_method_5_code 20 = .ok (.iconst 0, 1) := by decide +kernel
theorem ef_rm_opN (m : MethodId) (x0 : Addr) : entryFrame m #[(.ref x0), .null] 2 = mkF m 0 #[.val (.ref x0), .val .null] [] := by first | (simp [entryFrame, mkF, argsToLocals, Value.category]; done) | rfl
theorem ef_rm_law (m : MethodId) (x0 : Int32) (x1 : Int32) (x2 : Int32) (x3 : Int32) (x4 : Int32) (x5 : Int32) : entryFrame m #[(.int x0), (.int x1), (.int x2), (.int x3), (.int x4), (.int x5)] maxLocals = mkF m 0 #[.val (.int x0), .val (.int x1), .val (.int x2), .val (.int x3), .val (.int x4), .val (.int x5), .unset, .unset, .unset, .unset, .unset, .unset, .unset, .unset, .unset, .unset, .unset, .unset, .unset, .unset, .unset] [] := by first | (simp [entryFrame, mkF, argsToLocals, Value.category, maxLocals]; done) | rfl
theorem pd_6 : parseMethodDescriptor "(I)Lcom/example/entitled/entitled/lang/Token$Kind;" = some ⟨[.int], some (.object "com/example/entitled/entitled/lang/Token$Kind")⟩ := by decide +kernel
theorem pd_7 : parseMethodDescriptor "(ICC)Ljava/lang/String;" = some ⟨[.int, .char, .char], some (.object "java/lang/String")⟩ := by decide +kernel
theorem pd_8 : parseMethodDescriptor "(Lcom/example/entitled/entitled/lang/Token$Kind;Ljava/lang/String;II)V" = some ⟨[(.object "com/example/entitled/entitled/lang/Token$Kind"), (.object "java/lang/String"), .int, .int], none⟩ := by decide +kernel
def ELx : List (String × Nat) := [("java/lang/String", 7)]
theorem own_hst {a0 : Array Value} {Z : State} (hw : ∀ d ∈ tables_1, d.before a0 Z = true) : ∀ a ∈ Bundle.stringAtoms, a.before a0 Z = true := fun a ha => hw a ((by decide +kernel : ∀ d ∈ Bundle.stringAtoms, d ∈ tables_1) a ha)
theorem own_hws {a0 : Array Value} {Z : State} (hw : ∀ d ∈ tables_1, d.before a0 Z = true) : ∀ d ∈ StrChars.Road.words, d.before a0 Z = true := fun d hd => hw d ((by decide +kernel : ∀ d ∈ StrChars.Road.words, d ∈ tables_1) d hd)
theorem own_start {tb : Tables} {e : Env} {s : State} {a0 : Array Value} (hE : EW s a0 ELx) (hcalls : Calls_1 tb e a0 s) (hc : (Jvm.Cond.not (Jvm.Cond.eq (Jvm.Term.static "java/lang/String" "COMPACT_STRINGS" "Z") (Jvm.Term.int (0 : Int32)))).before a0 s = true) (wa : (Jvm.Cond.arrayClass .byte).before a0 s = true) (wi : (Jvm.Cond.instantiable "java/lang/String" 4).before a0 s = true) : CHv s ELx s.vm s.heap :=
  CHv.start hE (fun p hp => hcalls.1 p hp) hc wa wi
theorem all0c {P : Int32 → Prop} : ∀ x ∈ ([] : List Int32), P x := fun _ q => nomatch q
theorem allC {P : Int32 → Prop} {y : Int32} {L : List Int32} (q : P y) (r : ∀ x ∈ L, P x) : ∀ x ∈ y :: L, P x := fun x z => (List.mem_cons.mp z).elim (fun u => u ▸ q) (r x)
theorem own_i255 : (255 : Int32).toInt = 255 := by decide
theorem own_i0 : (0 : Int32).toInt = 0 := by decide
theorem own_ch (x : Int32) : ¬ ((x &&& (255 : Int32)).toUInt32.toUInt16.toUInt32.toInt32) < 0 ∧ ¬ (255 : Int32) < ((x &&& (255 : Int32)).toUInt32.toUInt16.toUInt32.toInt32) := by
  rw [i2c_mask]
  have h := c_and x (255 : Int32) (by decide)
  simp only [Int32.lt_iff_toInt_lt, own_i255, own_i0] at *; omega
theorem own_narc {x : Int32} (h : ¬ x < 0 ∧ ¬ (255 : Int32) < x) : nar .char x = x := by
  have c := c_i2c x
  have r := rng32 x
  simp only [Int32.lt_iff_toInt_lt, own_i255, own_i0] at h
  apply Int32.toInt_inj.mp
  show (x.toUInt32.toUInt16.toUInt32.toInt32).toInt = x.toInt
  omega
theorem own_rngm (x d : Int32) (h0 : 0 ≤ x.toInt) (hd : 0 < d.toInt) : ¬ (x % d) < 0 ∧ (x % d) < d := by
  have h2 := (c_iremV x d).1 h0 hd
  simp only [Int32.lt_iff_toInt_lt, own_i0]; omega
theorem own_hE {a0 : Array Value} {Z : State} (hw : ∀ d ∈ tables_1, d.before a0 Z = true) : EW Z a0 ELx := EW.cons (text := "") (ow hw 25 rfl) (by decide) EW.nil
theorem own_hwq {a0 : Array Value} {Z : State} (hw : ∀ d ∈ tables_1, d.before a0 Z = true) : ∀ d ∈ StrChars.Road.wordsEq, d.before a0 Z = true := fun d hd => hw d ((by decide +kernel : ∀ d ∈ StrChars.Road.wordsEq, d ∈ tables_1) d hd)
theorem own_rng6 (x : Int32) : ¬ ((x &&& (2147483647 : Int32)) % (6 : Int32)) < 0 ∧ ((x &&& (2147483647 : Int32)) % (6 : Int32)) < 6 := own_rngm _ _ (c_and x (2147483647 : Int32) (by decide)).1 (by decide)
theorem own_rng3 (x : Int32) : ¬ ((x &&& (2147483647 : Int32)) % (3 : Int32)) < 0 ∧ ((x &&& (2147483647 : Int32)) % (3 : Int32)) < 3 := own_rngm _ _ (c_and x (2147483647 : Int32) (by decide)).1 (by decide)
theorem own_nb {P : Prop} [Decidable P] : nar .boolean (if P then (1 : Int32) else 0) = if P then 1 else 0 := by split <;> rfl
def own_cs (len a b : Int32) : List Int32 := if len = 0 then [] else if len = 1 then [a] else [a, b]
theorem own_cslen (len a b : Int32) : (own_cs len a b).length ≤ 4000 := by unfold own_cs; split <;> (try split) <;> simp
def own_kind (k : Int32) (w0 w1 w2 w3 w4 w5 : Addr) : Value := if k = 0 then .ref w0 else if k = 1 then .ref w1 else if k = 2 then .ref w2 else if k = 3 then .ref w3 else if k = 4 then .ref w4 else .ref w5
theorem own_kind_ref (k : Int32) (w0 w1 w2 w3 w4 w5 : Addr) : (own_kind k w0 w1 w2 w3 w4 w5).isRef = true := by
  unfold own_kind; repeat' split
  all_goals rfl
def own_want (ki lt lo t0 t1 o0 o1 : Int32) : Int32 := if ((ki = 1 ∨ ki = 4) ∧ lt = lo ∧ (lt < 1 ∨ t0 = o0) ∧ (lt < 2 ∨ t1 = o1)) then 1 else 0
theorem own_kind_ord {Z : State} {k : Int32} {w0 w1 w2 w3 w4 w5 : Addr} (hk : ¬ k < 0 ∧ k < 6) (Q0 : Fld Z Z.heap w0 "java/lang/Enum" "ordinal" "I" (.int 0)) (Q1 : Fld Z Z.heap w1 "java/lang/Enum" "ordinal" "I" (.int 1)) (Q2 : Fld Z Z.heap w2 "java/lang/Enum" "ordinal" "I" (.int 2)) (Q3 : Fld Z Z.heap w3 "java/lang/Enum" "ordinal" "I" (.int 3)) (Q4 : Fld Z Z.heap w4 "java/lang/Enum" "ordinal" "I" (.int 4)) (Q5 : Fld Z Z.heap w5 "java/lang/Enum" "ordinal" "I" (.int 5)) :
    ∃ a, own_kind k w0 w1 w2 w3 w4 w5 = .ref a ∧ Fld Z Z.heap a "java/lang/Enum" "ordinal" "I" (.int k) := by
  unfold own_kind
  by_cases h0 : k = 0
  · subst h0; exact ⟨_, rfl, Q0⟩
  by_cases h1 : k = 1
  · subst h1; exact ⟨_, rfl, Q1⟩
  by_cases h2 : k = 2
  · subst h2; exact ⟨_, rfl, Q2⟩
  by_cases h3 : k = 3
  · subst h3; exact ⟨_, rfl, Q3⟩
  by_cases h4 : k = 4
  · subst h4; exact ⟨_, rfl, Q4⟩
  have h5 : k = 5 := by
    simp only [Int32.lt_iff_toInt_lt, ← Int32.toInt_inj, Int32.reduceToInt] at *; omega
  subst h5; exact ⟨_, rfl, Q5⟩
theorem own_kind_at {Z : State} {k j : Int32} {b : Addr} {w0 w1 w2 w3 w4 w5 : Addr} (hk : ¬ k < 0 ∧ k < 6) (Q0 : Fld Z Z.heap w0 "java/lang/Enum" "ordinal" "I" (.int 0)) (Q1 : Fld Z Z.heap w1 "java/lang/Enum" "ordinal" "I" (.int 1)) (Q2 : Fld Z Z.heap w2 "java/lang/Enum" "ordinal" "I" (.int 2)) (Q3 : Fld Z Z.heap w3 "java/lang/Enum" "ordinal" "I" (.int 3)) (Q4 : Fld Z Z.heap w4 "java/lang/Enum" "ordinal" "I" (.int 4)) (Q5 : Fld Z Z.heap w5 "java/lang/Enum" "ordinal" "I" (.int 5)) (Fb : Fld Z Z.heap b "java/lang/Enum" "ordinal" "I" (.int j)) (hb : k = j → own_kind k w0 w1 w2 w3 w4 w5 = .ref b) : own_kind k w0 w1 w2 w3 w4 w5 = .ref b ↔ k = j := by
  refine ⟨fun q => ?_, hb⟩
  obtain ⟨a, ea, Fa⟩ := own_kind_ord hk Q0 Q1 Q2 Q3 Q4 Q5
  rw [ea] at q
  have hab : a = b := Value.ref.inj q
  by_cases hne : k = j
  · exact hne
  · exact absurd hab (Fld.ne Fa Fb (fun q => hne (Value.int.inj q)))
theorem own_cs_inj {lt lo t0 t1 o0 o1 : Int32} (hlt : ¬ lt < 0 ∧ lt < 3) (hlo : ¬ lo < 0 ∧ lo < 3) : own_cs lt t0 t1 = own_cs lo o0 o1 ↔ (lt = lo ∧ (lt < 1 ∨ t0 = o0) ∧ (lt < 2 ∨ t1 = o1)) := by
  have a : lt = 0 ∨ lt = 1 ∨ lt = 2 := by simp only [Int32.lt_iff_toInt_lt, ← Int32.toInt_inj, Int32.reduceToInt] at *; omega
  have b : lo = 0 ∨ lo = 1 ∨ lo = 2 := by simp only [Int32.lt_iff_toInt_lt, ← Int32.toInt_inj, Int32.reduceToInt] at *; omega
  rcases a with rfl | rfl | rfl <;> rcases b with rfl | rfl | rfl <;> simp [own_cs]
theorem own_gw {Z : State} {ki lt lo t0 t1 o0 o1 : Int32} {w0 w1 w2 w3 w4 w5 : Addr} (hki : ¬ ki < 0 ∧ ki < 6) (hlt : ¬ lt < 0 ∧ lt < 3) (hlo : ¬ lo < 0 ∧ lo < 3) (Q0 : Fld Z Z.heap w0 "java/lang/Enum" "ordinal" "I" (.int 0)) (Q1 : Fld Z Z.heap w1 "java/lang/Enum" "ordinal" "I" (.int 1)) (Q2 : Fld Z Z.heap w2 "java/lang/Enum" "ordinal" "I" (.int 2)) (Q3 : Fld Z Z.heap w3 "java/lang/Enum" "ordinal" "I" (.int 3)) (Q4 : Fld Z Z.heap w4 "java/lang/Enum" "ordinal" "I" (.int 4)) (Q5 : Fld Z Z.heap w5 "java/lang/Enum" "ordinal" "I" (.int 5)) :
    (if (own_kind ki w0 w1 w2 w3 w4 w5 = .ref w4 ∧ own_cs lt t0 t1 = own_cs lo o0 o1) ∨ (own_kind ki w0 w1 w2 w3 w4 w5 = .ref w1 ∧ own_cs lt t0 t1 = own_cs lo o0 o1) then (1 : Int32) else 0) = own_want ki lt lo t0 t1 o0 o1 := by
  have k4 : own_kind ki w0 w1 w2 w3 w4 w5 = .ref w4 ↔ ki = 4 := own_kind_at hki Q0 Q1 Q2 Q3 Q4 Q5 Q4 (fun q => by subst q; rfl)
  have k1 : own_kind ki w0 w1 w2 w3 w4 w5 = .ref w1 ↔ ki = 1 := own_kind_at hki Q0 Q1 Q2 Q3 Q4 Q5 Q1 (fun q => by subst q; rfl)
  unfold own_want
  simp only [k4, k1, own_cs_inj hlt hlo, ← or_and_right, or_comm (a := ki = 4)]
theorem own_fldR {args : Array Value} {s : State} {t t2 : Term} {C n d : String} {x y : Addr} (ht : t.eval args s none [] s = some (.ref x)) (h2 : t2.eval args s none [] s = some (.ref y)) (q : (Jvm.Cond.eq (.field t C n d) t2).value args s none s [] = some true) : Fld s s.heap x C n d (.ref y) := by
  obtain ⟨a, b, e1, e2, k1, k2⟩ := cmp_v (Or.inl q)
  cases e2.symm.trans h2
  have ra : a.isRef = true := k2.2
  have hq := gotT (eq_R e1 h2 ra rfl) q
  subst hq
  rw [fld_at ht] at e1
  exact Fld.start e1
theorem own_fldI {args : Array Value} {s : State} {t : Term} {C n d : String} {x : Addr} {z : Int32} (ht : t.eval args s none [] s = some (.ref x)) (q : (Jvm.Cond.eq (.field t C n d) (.int z)).value args s none s [] = some true) : Fld s s.heap x C n d (.int z) := by
  obtain ⟨a, b, e1, e2, k1, k2⟩ := cmp_v (Or.inl q)
  cases e2.symm.trans (Term.int_eval z)
  obtain ⟨y, rfl⟩ := k2
  have hq := gotT (Cond.eq_ints e1 (Term.int_eval z)) q
  subst hq
  rw [fld_at ht] at e1
  exact Fld.start e1
set_option maxRecDepth 65536 in
set_option maxHeartbeats 40000000 in
theorem rm_s2 (l : Launch) (Z : State) (a0 : Array Value) (hw : ∀ d ∈ tables_1, d.before a0 Z = true) (hE : EW Z a0 ELx) (a1 : Addr) (b1 : Addr) (h0 : Heap) (O0 : Ext Z.heap h0) (E1 : Exa Z h0 a1 "java/lang/String") (F1 : Fld Z h0 a1 "java/lang/String" "value" "[B" .null) (F2 : Fld Z h0 a1 "java/lang/String" "coder" "B" (.int 0)) (g1 : Z.heap.size ≤ a1) :
    Ct l Z ELx a0 true (⟨"java/lang/String", "<init>", "([CIILjava/lang/Void;)V"⟩ : MethodName) jdk_42_method_149_code 6 none [] ({ frames := 1, cells := 4, slots := 8, locals := 12 } : Room) #[(.ref a1), (.ref b1), (.int (0 : Int32)), (.int (0 : Int32)), .null] h0 [a1] (fun v h => v = none ∧ Keep h0 h [a1] ∧ own_str Z h a1 []) := by
  refine own_enter (plainFor_of_name pn_0) hE O0 ?_
  intro p e s m below meth c s₁ hx hby hml hown hnm hret hlk H0
  refine Go.eq (ef_rm_s2 m a1 b1 (0 : Int32) (0 : Int32)) ?_
  have K1 : Keep h0 h0 [a1] := Keep.refl _ _
  have hst := own_hst hw
  show Go p e below _ s₁ (mkF m 0 #[.val (.ref a1), .val (.ref b1), .val (.int (0 : Int32)), .val (.int (0 : Int32)), .val .null, .unset] [])
  refine Go.of (fun _ => XS.aloadN H0.here hx rfl (hb hby d_jdk_42_149_0) rfl rfl) ?_
  show Go p e below _ s₁ (mkF m 1 #[.val (.ref a1), .val (.ref b1), .val (.int (0 : Int32)), .val (.int (0 : Int32)), .val .null, .unset] [(.ref a1)])
  refine own_initO H0 hx hown (ow hw 22 rfl) (ow hw 23 rfl) (ow hw 24 rfl) rfl (by rw [hml]; rfl) rfl (hb hby d_jdk_42_149_1) (by decide) (W := 0) (by show 2 * 0 + _ ≤ _; exact Nat.le_of_eq rfl) (by decide) fun T2 H3 => ?_
  show Go p e below _ T2 (mkF m 4 #[.val (.ref a1), .val (.ref b1), .val (.int (0 : Int32)), .val (.int (0 : Int32)), .val .null, .unset] [])
  refine Go.of (fun _ => XS.iloadN H3.here hx rfl (hb hby d_jdk_42_149_4) rfl) ?_
  show Go p e below _ T2 (mkF m 5 #[.val (.ref a1), .val (.ref b1), .val (.int (0 : Int32)), .val (.int (0 : Int32)), .val .null, .unset] [(.int (0 : Int32))])
  refine Go.of (fun _ => XS.ifNo H3.here hx rfl (hb hby d_jdk_42_149_5) rfl ((if0 _ _).trans (teq (by decide : (0 : Int32) = (0 : Int32))).2)) ?_
  show Go p e below _ T2 (mkF m 8 #[.val (.ref a1), .val (.ref b1), .val (.int (0 : Int32)), .val (.int (0 : Int32)), .val .null, .unset] [])
  refine Go.of (fun _ => XS.aloadN H3.here hx rfl (hb hby d_jdk_42_149_8) rfl rfl) ?_
  show Go p e below _ T2 (mkF m 9 #[.val (.ref a1), .val (.ref b1), .val (.int (0 : Int32)), .val (.int (0 : Int32)), .val .null, .unset] [(.ref a1)])
  refine own_ldcS H3 hx hown (ow hw 25 rfl) hst (by decide) (vs := []) (z := (0 : Int32)) ⟨by decide, by decide⟩ (by decide) (by decide) rfl (hb hby d_jdk_42_149_9) (nn := 0) (by decide) (by decide) (by decide) (by decide) fun T4 h6 a8 b9 kb10 H5 E7 f11 f12 f13 V14 ne15 => ?_
  have K16 : Keep h0 h6 [a1] := K1.ext E7
  have f17 := E1.ext E7
  have f18 := F1.ext E7
  have f19 := F2.ext E7
  show Go p e below _ T4 (mkF m 11 #[.val (.ref a1), .val (.ref b1), .val (.int (0 : Int32)), .val (.int (0 : Int32)), .val .null, .unset] [(.ref a8), (.ref a1)])
  refine own_getF H5 hx hown (host := "") (Or.inl (ow hw 31 rfl)) Via.refl f13 rfl rfl (hb hby d_jdk_42_149_11) fun T20 H21 => ?_
  show Go p e below _ T20 (mkF m 14 #[.val (.ref a1), .val (.ref b1), .val (.int (0 : Int32)), .val (.int (0 : Int32)), .val .null, .unset] [(.ref b9), (.ref a1)])
  refine own_putF H21 hx hown (host := "") (Or.inl (ow hw 31 rfl)) Via.refl f18 f17 (Or.inr ⟨(ow hw 27 rfl), rfl, hnm⟩) (ow hw 12 rfl) (ty := (.array .byte)) (by decide) rfl rfl g1 (own_mem (List.mem_of_getElem? (i := 0) rfl)) rfl rfl (hb hby d_jdk_42_149_14) fun T22 h24 H23 W25 => ?_
  have K26 : Keep h0 h24 [a1] := K16.wr W25 (Or.inl (List.mem_of_getElem? (i := 0) rfl))
  have f27 := f17.wr W25
  have f28 := f18.same W25
  have f29 := f19.other W25 (Or.inr (slot_ne (Or.inr (ow hw 28 rfl)) (Or.inr (ow hw 27 rfl)) (by decide) (t := .byte) (t' := (.array .byte)) (by decide) (by decide)))
  have f30 := f11.wr W25
  have f31 := f12.other W25 (Or.inl (Ne.symm (ne15 a1 (List.mem_of_getElem? (i := 0) rfl)).1))
  have f32 := f13.other W25 (Or.inl (Ne.symm (ne15 a1 (List.mem_of_getElem? (i := 0) rfl)).1))
  have f33 := V14.other W25 (Ne.symm (ne15 a1 (List.mem_of_getElem? (i := 0) rfl)).2)
  show Go p e below _ T22 (mkF m 17 #[.val (.ref a1), .val (.ref b1), .val (.int (0 : Int32)), .val (.int (0 : Int32)), .val .null, .unset] [])
  refine Go.of (fun _ => XS.aloadN H23.here hx rfl (hb hby d_jdk_42_149_17) rfl rfl) ?_
  show Go p e below _ T22 (mkF m 18 #[.val (.ref a1), .val (.ref b1), .val (.int (0 : Int32)), .val (.int (0 : Int32)), .val .null, .unset] [(.ref a1)])
  refine own_ldcS H23 hx hown (ow hw 25 rfl) hst (by decide) (vs := []) (z := (0 : Int32)) ⟨by decide, by decide⟩ (by decide) (by decide) rfl (hb hby d_jdk_42_149_18) (nn := 0) (by decide) (by decide) (by decide) (by decide) fun T34 h36 a38 b39 kb40 H35 E37 f41 f42 f43 V44 ne45 => ?_
  have K46 : Keep h0 h36 [a1] := K26.ext E37
  have f47 := f27.ext E37
  have f48 := f28.ext E37
  have f49 := f29.ext E37
  have f50 := f30.ext E37
  have f51 := f31.ext E37
  have f52 := f32.ext E37
  have f53 := f33.ext E37
  show Go p e below _ T34 (mkF m 20 #[.val (.ref a1), .val (.ref b1), .val (.int (0 : Int32)), .val (.int (0 : Int32)), .val .null, .unset] [(.ref a38), (.ref a1)])
  refine own_getF H35 hx hown (host := "") (Or.inl (ow hw 32 rfl)) Via.refl f42 rfl rfl (hb hby d_jdk_42_149_20) fun T54 H55 => ?_
  show Go p e below _ T54 (mkF m 23 #[.val (.ref a1), .val (.ref b1), .val (.int (0 : Int32)), .val (.int (0 : Int32)), .val .null, .unset] [(.int (0 : Int32)), (.ref a1)])
  refine own_putFN H55 hx hown (ow hw 32 rfl) Via.refl f49 f47 (Or.inr ⟨(ow hw 28 rfl), rfl, hnm⟩) (ow hw 12 rfl) (ty := .byte) (v' := .int (nar .byte (0 : Int32))) (by decide) rfl (fits_nar_byte _) g1 (own_mem (List.mem_of_getElem? (i := 0) rfl)) rfl rfl (hb hby d_jdk_42_149_23) fun T56 h58 H57 W59 => ?_
  have K60 : Keep h0 h58 [a1] := K46.wr W59 (Or.inl (List.mem_of_getElem? (i := 0) rfl))
  have f61 := f47.wr W59
  have f62 := f48.other W59 (Or.inr (slot_ne (Or.inr (ow hw 27 rfl)) (Or.inr (ow hw 28 rfl)) (by decide) (t := (.array .byte)) (t' := .byte) (by decide) (by decide)))
  have f63 := f49.same W59
  have f64 := f50.wr W59
  have f65 := f51.other W59 (Or.inl (Ne.symm (ne15 a1 (List.mem_of_getElem? (i := 0) rfl)).1))
  have f66 := f52.other W59 (Or.inl (Ne.symm (ne15 a1 (List.mem_of_getElem? (i := 0) rfl)).1))
  have f67 := f53.other W59 (Ne.symm (ne15 a1 (List.mem_of_getElem? (i := 0) rfl)).2)
  have f68 := f41.wr W59
  have f69 := f42.other W59 (Or.inl (Ne.symm (ne45 a1 (List.mem_of_getElem? (i := 0) rfl)).1))
  have f70 := f43.other W59 (Or.inl (Ne.symm (ne45 a1 (List.mem_of_getElem? (i := 0) rfl)).1))
  have f71 := V44.other W59 (Ne.symm (ne45 a1 (List.mem_of_getElem? (i := 0) rfl)).2)
  show Go p e below _ T56 (mkF m 26 #[.val (.ref a1), .val (.ref b1), .val (.int (0 : Int32)), .val (.int (0 : Int32)), .val .null, .unset] [])
  exact own_ret H57 hx hlk hret (hb hby d_jdk_42_149_26) ⟨rfl, K60, own_str.empty f61 f63 f62 f67⟩ (by decide) (by decide)
set_option maxRecDepth 65536 in
set_option maxHeartbeats 40000000 in
theorem rm_s1 (l : Launch) (Z : State) (a0 : Array Value) (hw : ∀ d ∈ tables_1, d.before a0 Z = true) (hE : EW Z a0 ELx) (a1 : Addr) (b1 : Addr) (kc : ClassId) (dc : Value) (h0 : Heap) (O0 : Ext Z.heap h0) (E1 : Exa Z h0 a1 "java/lang/String") (F1 : Fld Z h0 a1 "java/lang/String" "value" "[B" .null) (F2 : Fld Z h0 a1 "java/lang/String" "coder" "B" (.int 0)) (g1 : Z.heap.size ≤ a1) (V1 : Arv Z h0 b1 kc .char (0 : Int32) [] dc) :
    Ct l Z ELx a0 true (⟨"java/lang/String", "<init>", "([C)V"⟩ : MethodName) jdk_42_method_3_code 2 none [] ({ frames := 2, cells := 4, slots := 8, locals := 30 } : Room) #[(.ref a1), (.ref b1)] h0 [a1] (fun v h => v = none ∧ Keep h0 h [a1] ∧ own_str Z h a1 []) := by
  refine own_enter (plainFor_of_name pn_0) hE O0 ?_
  intro p e s m below meth c s₁ hx hby hml hown hnm hret hlk H0
  refine Go.eq (ef_rm_s1 m a1 b1) ?_
  have K1 : Keep h0 h0 [a1] := Keep.refl _ _
  have hst := own_hst hw
  show Go p e below _ s₁ (mkF m 0 #[.val (.ref a1), .val (.ref b1)] [])
  refine Go.of (fun _ => XS.aloadN H0.here hx rfl (hb hby d_jdk_42_3_0) rfl rfl) ?_
  show Go p e below _ s₁ (mkF m 1 #[.val (.ref a1), .val (.ref b1)] [(.ref a1)])
  refine Go.of (fun _ => XS.aloadN H0.here hx rfl (hb hby d_jdk_42_3_1) rfl rfl) ?_
  show Go p e below _ s₁ (mkF m 2 #[.val (.ref a1), .val (.ref b1)] [(.ref b1), (.ref a1)])
  refine Go.of (fun _ => XS.iconst H0.here hx rfl (hb hby d_jdk_42_3_2)) ?_
  show Go p e below _ s₁ (mkF m 3 #[.val (.ref a1), .val (.ref b1)] [(.int (0 : Int32)), (.ref b1), (.ref a1)])
  refine Go.of (fun _ => XS.aloadN H0.here hx rfl (hb hby d_jdk_42_3_3) rfl rfl) ?_
  show Go p e below _ s₁ (mkF m 4 #[.val (.ref a1), .val (.ref b1)] [(.ref b1), (.int (0 : Int32)), (.ref b1), (.ref a1)])
  refine own_len H0 hx V1 rfl rfl (hb hby d_jdk_42_3_4) ?_
  show Go p e below _ s₁ (mkF m 5 #[.val (.ref a1), .val (.ref b1)] [(.int (0 : Int32)), (.int (0 : Int32)), (.ref b1), (.ref a1)])
  refine Go.of (fun _ => XS.aconstNull H0.here hx rfl (hb hby d_jdk_42_3_5)) ?_
  show Go p e below _ s₁ (mkF m 6 #[.val (.ref a1), .val (.ref b1)] [.null, (.int (0 : Int32)), (.int (0 : Int32)), (.ref b1), (.ref a1)])
  refine own_specialW H0 hx (y := (⟨"java/lang/String", "<init>", "([CIILjava/lang/Void;)V"⟩ : MethodName)) rfl hown (ow hw 18 rfl) (ow hw 19 rfl) (ow hw 13 rfl) (ow hw 21 rfl) (by decide) (W := 0) (rm_s2 l Z a0 hw hE a1 b1 h0 H0.old E1 F1 F2 g1) (allS (List.mem_of_getElem? (i := 0) rfl) all0) (by decide) (by decide) rfl (by rw [hml]; rfl) (a := a1) (argsL := [(.ref b1), (.int (0 : Int32)), (.int (0 : Int32)), .null]) (rest := []) rfl (lenOf pd_0 rfl) rfl (by show 2 * 0 + _ ≤ _; exact Nat.le_of_eq rfl) (hb hby d_jdk_42_3_6) (by decide) (by decide) fun T2 h4 v6 H3 hs7 q5 => ?_
  obtain ⟨rfl, KK, SS⟩ := q5
  show Go p e below _ T2 (mkF m 9 #[.val (.ref a1), .val (.ref b1)] [])
  exact own_ret H3 hx hlk hret (hb hby d_jdk_42_3_9) ⟨rfl, KK, SS⟩ (by decide) (by decide)
set_option maxRecDepth 65536 in
set_option maxHeartbeats 40000000 in
theorem rm_str (l : Launch) (Z : State) (a0 : Array Value) (hw : ∀ d ∈ tables_1, d.before a0 Z = true) (hE : EW Z a0 ELx) (p1 : Int32) (p2 : Int32) (p3 : Int32) (zc : Int32) (h0 : Heap) (O0 : Ext Z.heap h0) (SC : Sta Z Z.heap "java/lang/String" "COMPACT_STRINGS" "Z" (.int zc)) (hzc : ¬ zc = 0) (hp2 : ¬ p2 < 0 ∧ ¬ (255 : Int32) < p2) (hp3 : ¬ p3 < 0 ∧ ¬ (255 : Int32) < p3) :
    Ct l Z ELx a0 true (⟨"com/example/entitled/entitled/lang/TokenIsOperatorPinLaw", "mk", "(ICC)Ljava/lang/String;"⟩ : MethodName) method_2_code 3 (some (.object "java/lang/String")) [] ({ frames := 4, cells := 6, slots := 14, locals := 66 } : Room) #[(.int p1), (.int p2), (.int p3)] h0 [] (fun v h => ∃ r, v = some (.ref r) ∧ Keep h0 h [] ∧ h0.size ≤ r ∧ own_str Z h r (own_cs p1 p2 p3)) := by
  refine own_enter (plainFor_of_name pn_1) hE O0 ?_
  intro p e s m below meth c s₁ hx hby hml hown hnm hret hlk H0
  refine Go.eq (ef_rm_str m p1 p2 p3) ?_
  have K1 : Keep h0 h0 [] := Keep.refl _ _
  have hst := own_hst hw
  show Go p e below _ s₁ (mkF m 0 #[.val (.int p1), .val (.int p2), .val (.int p3)] [])
  refine Go.of (fun _ => XS.iloadN H0.here hx rfl (hb hby d_2_0) rfl) ?_
  show Go p e below _ s₁ (mkF m 1 #[.val (.int p1), .val (.int p2), .val (.int p3)] [(.int p1)])
  by_cases hc2 : p1 = (0 : Int32)
  · skip
    refine Go.of (fun _ => XS.ifNo H0.here hx rfl (hb hby d_2_1) rfl ((if0 _ _).trans (teq hc2).2)) ?_
    show Go p e below _ s₁ (mkF m 4 #[.val (.int p1), .val (.int p2), .val (.int p3)] [])
    refine own_new H0 hx hown (ow hw 11 rfl) (ow hw 12 rfl) (ow hw 13 rfl) rfl (hb hby d_2_4) (by decide) (by decide) fun T3 h5 b6 g7 H4 E8 A9 D10 => ?_
    have fr11 : Z.heap.size ≤ b6 := by rw [g7]; exact H0.old.1
    have sz12 : h0.size ≤ b6 := by rw [g7]; exact K1.1
    have K13 : Keep h0 h5 [] := K1.ext E8
    have f14 : Fld Z h5 b6 "java/lang/String" "value" "[B" .null := D10 (Or.inr (ow hw 27 rfl)) (ty := (.array .byte)) (by decide)
    have f15 : Fld Z h5 b6 "java/lang/String" "coder" "B" (.int (0 : Int32)) := D10 (Or.inr (ow hw 28 rfl)) (ty := .byte) (by decide)
    show Go p e below _ T3 (mkF m 7 #[.val (.int p1), .val (.int p2), .val (.int p3)] [(.ref b6)])
    refine Go.of (fun _ => XS.dup H4.here hx rfl (hb hby d_2_7) rfl rfl) ?_
    show Go p e below _ T3 (mkF m 8 #[.val (.int p1), .val (.int p2), .val (.int p3)] [(.ref b6), (.ref b6)])
    refine Go.of (fun _ => XS.iconst H4.here hx rfl (hb hby d_2_8)) ?_
    show Go p e below _ T3 (mkF m 9 #[.val (.int p1), .val (.int p2), .val (.int p3)] [(.int (0 : Int32)), (.ref b6), (.ref b6)])
    refine own_newP H4 hx (ow hw 14 rfl) rfl (hb hby d_2_9) rfl (by decide) (cap := 0) (by decide) (by decide) (by decide) (by decide) fun T16 h18 b19 kA22 g20 H17 E21 V23 => ?_
    have ne24 : b6 ≠ b19 := by rw [g20]; exact Nat.ne_of_lt A9.lt
    have fr25 : Z.heap.size ≤ b19 := by rw [g20]; exact H4.old.1
    have sz26 : h0.size ≤ b19 := by rw [g20]; exact K13.1
    have K27 : Keep h0 h18 [] := K13.ext E21
    have f28 := A9.ext E21
    have f29 := f14.ext E21
    have f30 := f15.ext E21
    have V31 : Arv Z h18 b19 kA22 .char (0 : Int32) [] (.int (0 : Int32)) := V23.pad (pad_rep [] (.int (0 : Int32)) 0)
    show Go p e below _ T16 (mkF m 11 #[.val (.int p1), .val (.int p2), .val (.int p3)] [(.ref b19), (.ref b6), (.ref b6)])
    refine own_specialW H17 hx (y := (⟨"java/lang/String", "<init>", "([C)V"⟩ : MethodName)) rfl hown (ow hw 15 rfl) (ow hw 16 rfl) (ow hw 13 rfl) (ow hw 17 rfl) (by decide) (W := 1) (rm_s1 l Z a0 hw hE b6 b19 _ _ h18 H17.old f28 f29 f30 fr11 V31) (allS (List.mem_of_getElem? (i := 1) rfl) all0) (by decide) (by decide) rfl (by rw [hml]; rfl) (a := b6) (argsL := [(.ref b19)]) (rest := [(.ref b6)]) rfl (lenOf pd_1 rfl) rfl (by show 2 * 0 + _ ≤ _; exact Nat.le_of_eq rfl) (hb hby d_2_11) (by decide) (by decide) fun T32 h34 v36 H33 hs37 q35 => ?_
    obtain ⟨rfl, KK, SS⟩ := q35
    have K38 : Keep h0 h34 [] := K27.trans KK (allS (Or.inr sz12) all0)
    show Go p e below _ T32 (mkF m 14 #[.val (.int p1), .val (.int p2), .val (.int p3)] [(.ref b6)])
    exact own_retA H33 hx hlk hret rfl rfl (hb hby d_2_14) ⟨b6, rfl, K38, sz12, by unfold own_cs; rw [if_pos hc2]; exact SS⟩ (by decide) (by decide)
  · skip
    refine Go.of (fun _ => XS.ifYes H0.here hx rfl (pc0 := 1) (pc' := 15) rfl (hb hby d_2_1) rfl ((if0 _ _).trans (feq hc2).2) (by decide) (by decide)) ?_
    show Go p e below _ s₁ (mkF m 15 #[.val (.int p1), .val (.int p2), .val (.int p3)] [])
    refine Go.of (fun _ => XS.iloadN H0.here hx rfl (hb hby d_2_15) rfl) ?_
    show Go p e below _ s₁ (mkF m 16 #[.val (.int p1), .val (.int p2), .val (.int p3)] [(.int p1)])
    refine Go.of (fun _ => XS.iconst H0.here hx rfl (hb hby d_2_16)) ?_
    show Go p e below _ s₁ (mkF m 17 #[.val (.int p1), .val (.int p2), .val (.int p3)] [(.int (1 : Int32)), (.int p1)])
    by_cases hc39 : p1 = (1 : Int32)
    · skip
      refine Go.of (fun _ => XS.icmpNo H0.here hx rfl (hb hby d_2_17) rfl (teq hc39).2) ?_
      show Go p e below _ s₁ (mkF m 20 #[.val (.int p1), .val (.int p2), .val (.int p3)] [])
      refine own_new H0 hx hown (ow hw 11 rfl) (ow hw 12 rfl) (ow hw 13 rfl) rfl (hb hby d_2_20) (by decide) (by decide) fun T40 h42 b43 g44 H41 E45 A46 D47 => ?_
      have fr48 : Z.heap.size ≤ b43 := by rw [g44]; exact H0.old.1
      have sz49 : h0.size ≤ b43 := by rw [g44]; exact K1.1
      have K50 : Keep h0 h42 [] := K1.ext E45
      have f51 : Fld Z h42 b43 "java/lang/String" "value" "[B" .null := D47 (Or.inr (ow hw 27 rfl)) (ty := (.array .byte)) (by decide)
      have f52 : Fld Z h42 b43 "java/lang/String" "coder" "B" (.int (0 : Int32)) := D47 (Or.inr (ow hw 28 rfl)) (ty := .byte) (by decide)
      show Go p e below _ T40 (mkF m 23 #[.val (.int p1), .val (.int p2), .val (.int p3)] [(.ref b43)])
      refine Go.of (fun _ => XS.dup H41.here hx rfl (hb hby d_2_23) rfl rfl) ?_
      show Go p e below _ T40 (mkF m 24 #[.val (.int p1), .val (.int p2), .val (.int p3)] [(.ref b43), (.ref b43)])
      refine Go.of (fun _ => XS.iconst H41.here hx rfl (hb hby d_2_24)) ?_
      show Go p e below _ T40 (mkF m 25 #[.val (.int p1), .val (.int p2), .val (.int p3)] [(.int (1 : Int32)), (.ref b43), (.ref b43)])
      refine own_newP H41 hx (ow hw 14 rfl) rfl (hb hby d_2_25) rfl (by decide) (cap := 1) (by decide) (by decide) (by decide) (by decide) fun T53 h55 b56 kA59 g57 H54 E58 V60 => ?_
      have ne61 : b43 ≠ b56 := by rw [g57]; exact Nat.ne_of_lt A46.lt
      have fr62 : Z.heap.size ≤ b56 := by rw [g57]; exact H41.old.1
      have sz63 : h0.size ≤ b56 := by rw [g57]; exact K50.1
      have K64 : Keep h0 h55 [] := K50.ext E58
      have f65 := A46.ext E58
      have f66 := f51.ext E58
      have f67 := f52.ext E58
      have V68 : Arv Z h55 b56 kA59 .char (1 : Int32) [(.int (0 : Int32))] (.int (0 : Int32)) := V60.pad (pad_rep [] (.int (0 : Int32)) 1)
      show Go p e below _ T53 (mkF m 27 #[.val (.int p1), .val (.int p2), .val (.int p3)] [(.ref b56), (.ref b43), (.ref b43)])
      refine Go.of (fun _ => XS.dup H54.here hx rfl (hb hby d_2_27) rfl rfl) ?_
      show Go p e below _ T53 (mkF m 28 #[.val (.int p1), .val (.int p2), .val (.int p3)] [(.ref b56), (.ref b56), (.ref b43), (.ref b43)])
      refine Go.of (fun _ => XS.iconst H54.here hx rfl (hb hby d_2_28)) ?_
      show Go p e below _ T53 (mkF m 29 #[.val (.int p1), .val (.int p2), .val (.int p3)] [(.int (0 : Int32)), (.ref b56), (.ref b56), (.ref b43), (.ref b43)])
      refine Go.of (fun _ => XS.iloadN H54.here hx rfl (hb hby d_2_29) rfl) ?_
      show Go p e below _ T53 (mkF m 30 #[.val (.int p1), .val (.int p2), .val (.int p3)] [(.int p2), (.int (0 : Int32)), (.ref b56), (.ref b56), (.ref b43), (.ref b43)])
      refine own_castore H54 hx V68 ⟨by decide, by decide⟩ 0 (by decide) (Nat.le_of_ble_eq_true rfl) fr62 rfl rfl (hb hby d_2_30) fun T69 h71 H70 W72 V73 => ?_
      have K74 : Keep h0 h71 [] := K64.wr W72 (Or.inr sz63)
      have f75 := f65.wr W72
      have f76 := f66.other W72 (Or.inl ne61)
      have f77 := f67.other W72 (Or.inl ne61)
      have V79 : Arv Z h71 b56 kA59 .char (1 : Int32) [(.int (nar .char p2))] (.int (0 : Int32)) := V73
      show Go p e below _ T69 (mkF m 31 #[.val (.int p1), .val (.int p2), .val (.int p3)] [(.ref b56), (.ref b43), (.ref b43)])
      have hV : Arv Z h71 b56 kA59 .char (1 : Int32) (([p2] : List Int32).map Value.int) (.int (0 : Int32)) := by have := V79; rw [own_narc hp2] at this; exact this
      refine own_newS H70 hx hown (ow hw 15 rfl) (ow hw 16 rfl) (ow hw 17 rfl) (own_hws hw) (ow hw 12 rfl) f75 f76 f77 hV SC hzc (ln := 1) rfl rfl (by decide) (by decide) (allC hp2 all0c) (by decide) (W := 1) (by decide) fr48 (List.mem_of_getElem? (i := 1) rfl) rfl (by rw [hml]; rfl) rfl (by show 2 * 0 + _ ≤ _; exact Nat.le_of_eq rfl) (hb hby d_2_31) (by decide) (by decide) fun T80 h82 H81 KK SS => ?_
      have K83 : Keep h0 h82 [] := K74.trans KK (allS (Or.inr sz49) all0)
      show Go p e below _ T80 (mkF m 34 #[.val (.int p1), .val (.int p2), .val (.int p3)] [(.ref b43)])
      exact own_retA H81 hx hlk hret rfl rfl (hb hby d_2_34) ⟨b43, rfl, K83, sz49, by unfold own_cs; rw [if_neg hc2, if_pos hc39]; exact SS⟩ (by decide) (by decide)
    · skip
      refine Go.of (fun _ => XS.icmpYes H0.here hx rfl (pc0 := 17) (pc' := 35) rfl (hb hby d_2_17) rfl (feq hc39).2 (by decide) (by decide)) ?_
      show Go p e below _ s₁ (mkF m 35 #[.val (.int p1), .val (.int p2), .val (.int p3)] [])
      refine own_new H0 hx hown (ow hw 11 rfl) (ow hw 12 rfl) (ow hw 13 rfl) rfl (hb hby d_2_35) (by decide) (by decide) fun T84 h86 b87 g88 H85 E89 A90 D91 => ?_
      have fr92 : Z.heap.size ≤ b87 := by rw [g88]; exact H0.old.1
      have sz93 : h0.size ≤ b87 := by rw [g88]; exact K1.1
      have K94 : Keep h0 h86 [] := K1.ext E89
      have f95 : Fld Z h86 b87 "java/lang/String" "value" "[B" .null := D91 (Or.inr (ow hw 27 rfl)) (ty := (.array .byte)) (by decide)
      have f96 : Fld Z h86 b87 "java/lang/String" "coder" "B" (.int (0 : Int32)) := D91 (Or.inr (ow hw 28 rfl)) (ty := .byte) (by decide)
      show Go p e below _ T84 (mkF m 38 #[.val (.int p1), .val (.int p2), .val (.int p3)] [(.ref b87)])
      refine Go.of (fun _ => XS.dup H85.here hx rfl (hb hby d_2_38) rfl rfl) ?_
      show Go p e below _ T84 (mkF m 39 #[.val (.int p1), .val (.int p2), .val (.int p3)] [(.ref b87), (.ref b87)])
      refine Go.of (fun _ => XS.iconst H85.here hx rfl (hb hby d_2_39)) ?_
      show Go p e below _ T84 (mkF m 40 #[.val (.int p1), .val (.int p2), .val (.int p3)] [(.int (2 : Int32)), (.ref b87), (.ref b87)])
      refine own_newP H85 hx (ow hw 14 rfl) rfl (hb hby d_2_40) rfl (by decide) (cap := 2) (by decide) (by decide) (by decide) (by decide) fun T97 h99 b100 kA103 g101 H98 E102 V104 => ?_
      have ne105 : b87 ≠ b100 := by rw [g101]; exact Nat.ne_of_lt A90.lt
      have fr106 : Z.heap.size ≤ b100 := by rw [g101]; exact H85.old.1
      have sz107 : h0.size ≤ b100 := by rw [g101]; exact K94.1
      have K108 : Keep h0 h99 [] := K94.ext E102
      have f109 := A90.ext E102
      have f110 := f95.ext E102
      have f111 := f96.ext E102
      have V112 : Arv Z h99 b100 kA103 .char (2 : Int32) [(.int (0 : Int32)), (.int (0 : Int32))] (.int (0 : Int32)) := V104.pad (pad_rep [] (.int (0 : Int32)) 2)
      show Go p e below _ T97 (mkF m 42 #[.val (.int p1), .val (.int p2), .val (.int p3)] [(.ref b100), (.ref b87), (.ref b87)])
      refine Go.of (fun _ => XS.dup H98.here hx rfl (hb hby d_2_42) rfl rfl) ?_
      show Go p e below _ T97 (mkF m 43 #[.val (.int p1), .val (.int p2), .val (.int p3)] [(.ref b100), (.ref b100), (.ref b87), (.ref b87)])
      refine Go.of (fun _ => XS.iconst H98.here hx rfl (hb hby d_2_43)) ?_
      show Go p e below _ T97 (mkF m 44 #[.val (.int p1), .val (.int p2), .val (.int p3)] [(.int (0 : Int32)), (.ref b100), (.ref b100), (.ref b87), (.ref b87)])
      refine Go.of (fun _ => XS.iloadN H98.here hx rfl (hb hby d_2_44) rfl) ?_
      show Go p e below _ T97 (mkF m 45 #[.val (.int p1), .val (.int p2), .val (.int p3)] [(.int p2), (.int (0 : Int32)), (.ref b100), (.ref b100), (.ref b87), (.ref b87)])
      refine own_castore H98 hx V112 ⟨by decide, by decide⟩ 0 (by decide) (Nat.le_of_ble_eq_true rfl) fr106 rfl rfl (hb hby d_2_45) fun T113 h115 H114 W116 V117 => ?_
      have K118 : Keep h0 h115 [] := K108.wr W116 (Or.inr sz107)
      have f119 := f109.wr W116
      have f120 := f110.other W116 (Or.inl ne105)
      have f121 := f111.other W116 (Or.inl ne105)
      have V123 : Arv Z h115 b100 kA103 .char (2 : Int32) [(.int (nar .char p2)), (.int (0 : Int32))] (.int (0 : Int32)) := V117
      show Go p e below _ T113 (mkF m 46 #[.val (.int p1), .val (.int p2), .val (.int p3)] [(.ref b100), (.ref b87), (.ref b87)])
      refine Go.of (fun _ => XS.dup H114.here hx rfl (hb hby d_2_46) rfl rfl) ?_
      show Go p e below _ T113 (mkF m 47 #[.val (.int p1), .val (.int p2), .val (.int p3)] [(.ref b100), (.ref b100), (.ref b87), (.ref b87)])
      refine Go.of (fun _ => XS.iconst H114.here hx rfl (hb hby d_2_47)) ?_
      show Go p e below _ T113 (mkF m 48 #[.val (.int p1), .val (.int p2), .val (.int p3)] [(.int (1 : Int32)), (.ref b100), (.ref b100), (.ref b87), (.ref b87)])
      refine Go.of (fun _ => XS.iloadN H114.here hx rfl (hb hby d_2_48) rfl) ?_
      show Go p e below _ T113 (mkF m 49 #[.val (.int p1), .val (.int p2), .val (.int p3)] [(.int p3), (.int (1 : Int32)), (.ref b100), (.ref b100), (.ref b87), (.ref b87)])
      refine own_castore H114 hx V123 ⟨by decide, by decide⟩ 1 (by decide) (Nat.le_of_ble_eq_true rfl) fr106 rfl rfl (hb hby d_2_49) fun T124 h126 H125 W127 V128 => ?_
      have K129 : Keep h0 h126 [] := K118.wr W127 (Or.inr sz107)
      have f130 := f119.wr W127
      have f131 := f120.other W127 (Or.inl ne105)
      have f132 := f121.other W127 (Or.inl ne105)
      have V134 : Arv Z h126 b100 kA103 .char (2 : Int32) [(.int (nar .char p2)), (.int (nar .char p3))] (.int (0 : Int32)) := V128
      show Go p e below _ T124 (mkF m 50 #[.val (.int p1), .val (.int p2), .val (.int p3)] [(.ref b100), (.ref b87), (.ref b87)])
      have hV : Arv Z h126 b100 kA103 .char (2 : Int32) (([p2, p3] : List Int32).map Value.int) (.int (0 : Int32)) := by have := V134; rw [own_narc hp2, own_narc hp3] at this; exact this
      refine own_newS H125 hx hown (ow hw 15 rfl) (ow hw 16 rfl) (ow hw 17 rfl) (own_hws hw) (ow hw 12 rfl) f130 f131 f132 hV SC hzc (ln := 2) rfl rfl (by decide) (by decide) (allC hp2 (allC hp3 all0c)) (by decide) (W := 1) (by decide) fr92 (List.mem_of_getElem? (i := 1) rfl) rfl (by rw [hml]; rfl) rfl (by show 2 * 0 + _ ≤ _; exact Nat.le_of_eq rfl) (hb hby d_2_50) (by decide) (by decide) fun T135 h137 H136 KK SS => ?_
      have K138 : Keep h0 h137 [] := K129.trans KK (allS (Or.inr sz93) all0)
      show Go p e below _ T135 (mkF m 53 #[.val (.int p1), .val (.int p2), .val (.int p3)] [(.ref b87)])
      exact own_retA H136 hx hlk hret rfl rfl (hb hby d_2_53) ⟨b87, rfl, K138, sz93, by unfold own_cs; rw [if_neg hc2, if_neg hc39]; exact SS⟩ (by decide) (by decide)
set_option maxRecDepth 65536 in
set_option maxHeartbeats 40000000 in
theorem rm_kind (l : Launch) (Z : State) (a0 : Array Value) (hw : ∀ d ∈ tables_1, d.before a0 Z = true) (hE : EW Z a0 ELx) (p1 : Int32) (w0 : Addr) (w1 : Addr) (w2 : Addr) (w3 : Addr) (w4 : Addr) (w5 : Addr) (h0 : Heap) (O0 : Ext Z.heap h0) (S0 : Sta Z Z.heap "com/example/entitled/entitled/lang/Token$Kind" "IDENTIFIER" "Lcom/example/entitled/entitled/lang/Token$Kind;" (.ref w0)) (S1 : Sta Z Z.heap "com/example/entitled/entitled/lang/Token$Kind" "KEYWORD" "Lcom/example/entitled/entitled/lang/Token$Kind;" (.ref w1)) (S2 : Sta Z Z.heap "com/example/entitled/entitled/lang/Token$Kind" "STRING" "Lcom/example/entitled/entitled/lang/Token$Kind;" (.ref w2)) (S3 : Sta Z Z.heap "com/example/entitled/entitled/lang/Token$Kind" "NUMBER" "Lcom/example/entitled/entitled/lang/Token$Kind;" (.ref w3)) (S4 : Sta Z Z.heap "com/example/entitled/entitled/lang/Token$Kind" "SYMBOL" "Lcom/example/entitled/entitled/lang/Token$Kind;" (.ref w4)) (S5 : Sta Z Z.heap "com/example/entitled/entitled/lang/Token$Kind" "END" "Lcom/example/entitled/entitled/lang/Token$Kind;" (.ref w5)) :
    Ct l Z ELx a0 true (⟨"com/example/entitled/entitled/lang/TokenIsOperatorPinLaw", "kindOf", "(I)Lcom/example/entitled/entitled/lang/Token$Kind;"⟩ : MethodName) method_3_code 1 (some (.object "com/example/entitled/entitled/lang/Token$Kind")) [] ({ frames := 0, cells := 0, slots := 0, locals := 0 } : Room) #[(.int p1)] h0 [] (fun v h => v = some (own_kind p1 w0 w1 w2 w3 w4 w5) ∧ h0 = h) := by
  refine own_enter (plainFor_of_name pn_1) hE O0 ?_
  intro p e s m below meth c s₁ hx hby hml hown hnm hret hlk H0
  refine Go.eq (ef_rm_kind m p1) ?_
  show Go p e below _ s₁ (mkF m 0 #[.val (.int p1)] [])
  refine Go.of (fun _ => XS.iloadN H0.here hx rfl (hb hby d_3_0) rfl) ?_
  show Go p e below _ s₁ (mkF m 1 #[.val (.int p1)] [(.int p1)])
  by_cases hc1 : p1 = (0 : Int32)
  · skip
    refine Go.of (fun _ => XS.ifNo H0.here hx rfl (hb hby d_3_1) rfl ((if0 _ _).trans (teq hc1).2)) ?_
    show Go p e below _ s₁ (mkF m 4 #[.val (.int p1)] [])
    refine own_getS H0 hx hown (host := "") (Or.inl (ow hw 5 rfl)) Via.refl S0 rfl (hb hby d_3_4) fun T2 H3 => ?_
    show Go p e below _ T2 (mkF m 7 #[.val (.int p1)] [(.ref w0)])
    exact own_retA H3 hx hlk hret rfl rfl (hb hby d_3_7) ⟨by unfold own_kind; rw [if_pos hc1], rfl⟩ (by decide) (by decide)
  · skip
    refine Go.of (fun _ => XS.ifYes H0.here hx rfl (pc0 := 1) (pc' := 8) rfl (hb hby d_3_1) rfl ((if0 _ _).trans (feq hc1).2) (by decide) (by decide)) ?_
    show Go p e below _ s₁ (mkF m 8 #[.val (.int p1)] [])
    refine Go.of (fun _ => XS.iloadN H0.here hx rfl (hb hby d_3_8) rfl) ?_
    show Go p e below _ s₁ (mkF m 9 #[.val (.int p1)] [(.int p1)])
    refine Go.of (fun _ => XS.iconst H0.here hx rfl (hb hby d_3_9)) ?_
    show Go p e below _ s₁ (mkF m 10 #[.val (.int p1)] [(.int (1 : Int32)), (.int p1)])
    by_cases hc4 : p1 = (1 : Int32)
    · skip
      refine Go.of (fun _ => XS.icmpNo H0.here hx rfl (hb hby d_3_10) rfl (teq hc4).2) ?_
      show Go p e below _ s₁ (mkF m 13 #[.val (.int p1)] [])
      refine own_getS H0 hx hown (host := "") (Or.inl (ow hw 101 rfl)) Via.refl S1 rfl (hb hby d_3_13) fun T5 H6 => ?_
      show Go p e below _ T5 (mkF m 16 #[.val (.int p1)] [(.ref w1)])
      exact own_retA H6 hx hlk hret rfl rfl (hb hby d_3_16) ⟨by unfold own_kind; rw [if_neg hc1, if_pos hc4], rfl⟩ (by decide) (by decide)
    · skip
      refine Go.of (fun _ => XS.icmpYes H0.here hx rfl (pc0 := 10) (pc' := 17) rfl (hb hby d_3_10) rfl (feq hc4).2 (by decide) (by decide)) ?_
      show Go p e below _ s₁ (mkF m 17 #[.val (.int p1)] [])
      refine Go.of (fun _ => XS.iloadN H0.here hx rfl (hb hby d_3_17) rfl) ?_
      show Go p e below _ s₁ (mkF m 18 #[.val (.int p1)] [(.int p1)])
      refine Go.of (fun _ => XS.iconst H0.here hx rfl (hb hby d_3_18)) ?_
      show Go p e below _ s₁ (mkF m 19 #[.val (.int p1)] [(.int (2 : Int32)), (.int p1)])
      by_cases hc7 : p1 = (2 : Int32)
      · skip
        refine Go.of (fun _ => XS.icmpNo H0.here hx rfl (hb hby d_3_19) rfl (teq hc7).2) ?_
        show Go p e below _ s₁ (mkF m 22 #[.val (.int p1)] [])
        refine own_getS H0 hx hown (host := "") (Or.inl (ow hw 102 rfl)) Via.refl S2 rfl (hb hby d_3_22) fun T8 H9 => ?_
        show Go p e below _ T8 (mkF m 25 #[.val (.int p1)] [(.ref w2)])
        exact own_retA H9 hx hlk hret rfl rfl (hb hby d_3_25) ⟨by unfold own_kind; rw [if_neg hc1, if_neg hc4, if_pos hc7], rfl⟩ (by decide) (by decide)
      · skip
        refine Go.of (fun _ => XS.icmpYes H0.here hx rfl (pc0 := 19) (pc' := 26) rfl (hb hby d_3_19) rfl (feq hc7).2 (by decide) (by decide)) ?_
        show Go p e below _ s₁ (mkF m 26 #[.val (.int p1)] [])
        refine Go.of (fun _ => XS.iloadN H0.here hx rfl (hb hby d_3_26) rfl) ?_
        show Go p e below _ s₁ (mkF m 27 #[.val (.int p1)] [(.int p1)])
        refine Go.of (fun _ => XS.iconst H0.here hx rfl (hb hby d_3_27)) ?_
        show Go p e below _ s₁ (mkF m 28 #[.val (.int p1)] [(.int (3 : Int32)), (.int p1)])
        by_cases hc10 : p1 = (3 : Int32)
        · skip
          refine Go.of (fun _ => XS.icmpNo H0.here hx rfl (hb hby d_3_28) rfl (teq hc10).2) ?_
          show Go p e below _ s₁ (mkF m 31 #[.val (.int p1)] [])
          refine own_getS H0 hx hown (host := "") (Or.inl (ow hw 99 rfl)) Via.refl S3 rfl (hb hby d_3_31) fun T11 H12 => ?_
          show Go p e below _ T11 (mkF m 34 #[.val (.int p1)] [(.ref w3)])
          exact own_retA H12 hx hlk hret rfl rfl (hb hby d_3_34) ⟨by unfold own_kind; rw [if_neg hc1, if_neg hc4, if_neg hc7, if_pos hc10], rfl⟩ (by decide) (by decide)
        · skip
          refine Go.of (fun _ => XS.icmpYes H0.here hx rfl (pc0 := 28) (pc' := 35) rfl (hb hby d_3_28) rfl (feq hc10).2 (by decide) (by decide)) ?_
          show Go p e below _ s₁ (mkF m 35 #[.val (.int p1)] [])
          refine Go.of (fun _ => XS.iloadN H0.here hx rfl (hb hby d_3_35) rfl) ?_
          show Go p e below _ s₁ (mkF m 36 #[.val (.int p1)] [(.int p1)])
          refine Go.of (fun _ => XS.iconst H0.here hx rfl (hb hby d_3_36)) ?_
          show Go p e below _ s₁ (mkF m 37 #[.val (.int p1)] [(.int (4 : Int32)), (.int p1)])
          by_cases hc13 : p1 = (4 : Int32)
          · skip
            refine Go.of (fun _ => XS.icmpNo H0.here hx rfl (hb hby d_3_37) rfl (teq hc13).2) ?_
            show Go p e below _ s₁ (mkF m 40 #[.val (.int p1)] [])
            refine own_getS H0 hx hown (host := "") (Or.inl (ow hw 77 rfl)) Via.refl S4 rfl (hb hby d_3_40) fun T14 H15 => ?_
            show Go p e below _ T14 (mkF m 43 #[.val (.int p1)] [(.ref w4)])
            exact own_retA H15 hx hlk hret rfl rfl (hb hby d_3_43) ⟨by unfold own_kind; rw [if_neg hc1, if_neg hc4, if_neg hc7, if_neg hc10, if_pos hc13], rfl⟩ (by decide) (by decide)
          · skip
            refine Go.of (fun _ => XS.icmpYes H0.here hx rfl (pc0 := 37) (pc' := 44) rfl (hb hby d_3_37) rfl (feq hc13).2 (by decide) (by decide)) ?_
            show Go p e below _ s₁ (mkF m 44 #[.val (.int p1)] [])
            refine own_getS H0 hx hown (host := "") (Or.inl (ow hw 104 rfl)) Via.refl S5 rfl (hb hby d_3_44) fun T16 H17 => ?_
            show Go p e below _ T16 (mkF m 47 #[.val (.int p1)] [(.ref w5)])
            exact own_retA H17 hx hlk hret rfl rfl (hb hby d_3_47) ⟨by unfold own_kind; rw [if_neg hc1, if_neg hc4, if_neg hc7, if_neg hc10, if_neg hc13], rfl⟩ (by decide) (by decide)
set_option maxRecDepth 65536 in
set_option maxHeartbeats 40000000 in
theorem rm_rec (l : Launch) (Z : State) (a0 : Array Value) (hw : ∀ d ∈ tables_1, d.before a0 Z = true) (hE : EW Z a0 ELx) (a1 : Addr) (h0 : Heap) (O0 : Ext Z.heap h0) :
    Ct l Z ELx a0 true (⟨"java/lang/Record", "<init>", "()V"⟩ : MethodName) jdk_30_method_1_code 1 none [] ({ frames := 1, cells := 0, slots := 0, locals := 12 } : Room) #[(.ref a1)] h0 [] (fun v h => v = none ∧ h0 = h) := by
  refine own_enter (plainFor_of_name pn_2) hE O0 ?_
  intro p e s m below meth c s₁ hx hby hml hown hnm hret hlk H0
  refine Go.eq (ef_rm_rec m a1) ?_
  show Go p e below _ s₁ (mkF m 0 #[.val (.ref a1)] [])
  refine Go.of (fun _ => XS.aloadN H0.here hx rfl (hb hby d_jdk_30_1_0) rfl rfl) ?_
  show Go p e below _ s₁ (mkF m 1 #[.val (.ref a1)] [(.ref a1)])
  refine own_initO H0 hx hown (ow hw 44 rfl) (ow hw 23 rfl) (ow hw 24 rfl) rfl (by rw [hml]; rfl) rfl (hb hby d_jdk_30_1_1) (by decide) (W := 0) (by show 2 * 0 + _ ≤ _; exact Nat.le_of_eq rfl) (by decide) fun T1 H2 => ?_
  show Go p e below _ T1 (mkF m 4 #[.val (.ref a1)] [])
  exact own_ret H2 hx hlk hret (hb hby d_jdk_30_1_4) ⟨rfl, rfl⟩ (by decide) (by decide)
set_option maxRecDepth 65536 in
set_option maxHeartbeats 40000000 in
theorem rm_ti (l : Launch) (Z : State) (a0 : Array Value) (hw : ∀ d ∈ tables_1, d.before a0 Z = true) (hE : EW Z a0 ELx) (a1 : Addr) (kv : Value) (tx : Addr) (p3 : Int32) (p4 : Int32) (h0 : Heap) (O0 : Ext Z.heap h0) (hkv : kv.isRef = true) (E1 : Exa Z h0 a1 "com/example/entitled/entitled/lang/Token") (F0 : Fld Z h0 a1 "com/example/entitled/entitled/lang/Token" "kind" "Lcom/example/entitled/entitled/lang/Token$Kind;" .null) (F1 : Fld Z h0 a1 "com/example/entitled/entitled/lang/Token" "text" "Ljava/lang/String;" .null) (F2 : Fld Z h0 a1 "com/example/entitled/entitled/lang/Token" "line" "I" (.int (0 : Int32))) (F3 : Fld Z h0 a1 "com/example/entitled/entitled/lang/Token" "column" "I" (.int (0 : Int32))) (g1 : Z.heap.size ≤ a1) :
    Ct l Z ELx a0 true (⟨"com/example/entitled/entitled/lang/Token", "<init>", "(Lcom/example/entitled/entitled/lang/Token$Kind;Ljava/lang/String;II)V"⟩ : MethodName) prog_11_method_1_code 5 none [] ({ frames := 2, cells := 0, slots := 0, locals := 24 } : Room) #[(.ref a1), kv, (.ref tx), (.int p3), (.int p4)] h0 [] (fun v h => v = none ∧ Keep h0 h [a1] ∧ Exa Z h a1 "com/example/entitled/entitled/lang/Token" ∧ Fld Z h a1 "com/example/entitled/entitled/lang/Token" "kind" "Lcom/example/entitled/entitled/lang/Token$Kind;" kv ∧ Fld Z h a1 "com/example/entitled/entitled/lang/Token" "text" "Ljava/lang/String;" (.ref tx)) := by
  refine own_enter (plainFor_of_name pn_3) hE O0 ?_
  intro p e s m below meth c s₁ hx hby hml hown hnm hret hlk H0
  refine Go.eq (ef_rm_ti m a1 kv tx p3 p4 hkv) ?_
  have K1 : Keep h0 h0 [a1] := Keep.refl _ _
  have hst := own_hst hw
  show Go p e below _ s₁ (mkF m 0 #[.val (.ref a1), .val kv, .val (.ref tx), .val (.int p3), .val (.int p4)] [])
  refine Go.of (fun _ => XS.aloadN H0.here hx rfl (hb hby d_prog_11_1_0) rfl rfl) ?_
  show Go p e below _ s₁ (mkF m 1 #[.val (.ref a1), .val kv, .val (.ref tx), .val (.int p3), .val (.int p4)] [(.ref a1)])
  refine own_specialW H0 hx (y := (⟨"java/lang/Record", "<init>", "()V"⟩ : MethodName)) rfl hown (ow hw 39 rfl) (ow hw 40 rfl) (ow hw 42 rfl) (ow hw 43 rfl) (by decide) (W := 0) (rm_rec l Z a0 hw hE a1 h0 H0.old) (fun _ hq => nomatch hq) (by decide) (by decide) rfl (by rw [hml]; rfl) (a := a1) (argsL := []) (rest := []) rfl (lenOf pd_2 rfl) rfl (by show 2 * 0 + _ ≤ _; exact Nat.le_of_eq rfl) (hb hby d_prog_11_1_1) (by decide) (by decide) fun T2 h4 v6 H3 hs7 q5 => ?_
  obtain ⟨ve9, e8⟩ := q5
  subst e8
  subst ve9
  show Go p e below _ T2 (mkF m 4 #[.val (.ref a1), .val kv, .val (.ref tx), .val (.int p3), .val (.int p4)] [])
  refine Go.of (fun _ => XS.aloadN H3.here hx rfl (hb hby d_prog_11_1_4) rfl rfl) ?_
  show Go p e below _ T2 (mkF m 5 #[.val (.ref a1), .val kv, .val (.ref tx), .val (.int p3), .val (.int p4)] [(.ref a1)])
  refine Go.of (fun _ => XS.aloadN H3.here hx rfl (hb hby d_prog_11_1_5) rfl hkv) ?_
  show Go p e below _ T2 (mkF m 6 #[.val (.ref a1), .val kv, .val (.ref tx), .val (.int p3), .val (.int p4)] [kv, (.ref a1)])
  refine own_putF H3 hx hown (host := "") (Or.inl (ow hw 45 rfl)) Via.refl F0 E1 (Or.inr ⟨(ow hw 46 rfl), rfl, hnm⟩) (ow hw 34 rfl) (ty := (.object "com/example/entitled/entitled/lang/Token$Kind")) (by decide) (own_nar hkv) (own_fit hkv) g1 (own_exa E1) rfl rfl (hb hby d_prog_11_1_6) fun T10 h12 H11 W13 => ?_
  have K14 : Keep h0 h12 [a1] := K1.wr W13 (Or.inl (List.mem_of_getElem? (i := 0) rfl))
  have f15 := E1.wr W13
  have f16 := F0.same W13
  have f17 := F1.other W13 (Or.inr (slot_ne (Or.inr (ow hw 48 rfl)) (Or.inr (ow hw 46 rfl)) (by decide) (t := (.object "java/lang/String")) (t' := (.object "com/example/entitled/entitled/lang/Token$Kind")) (by decide) (by decide)))
  have f18 := F2.other W13 (Or.inr (slot_ne (Or.inr (ow hw 50 rfl)) (Or.inr (ow hw 46 rfl)) (by decide) (t := .int) (t' := (.object "com/example/entitled/entitled/lang/Token$Kind")) (by decide) (by decide)))
  have f19 := F3.other W13 (Or.inr (slot_ne (Or.inr (ow hw 52 rfl)) (Or.inr (ow hw 46 rfl)) (by decide) (t := .int) (t' := (.object "com/example/entitled/entitled/lang/Token$Kind")) (by decide) (by decide)))
  show Go p e below _ T10 (mkF m 9 #[.val (.ref a1), .val kv, .val (.ref tx), .val (.int p3), .val (.int p4)] [])
  refine Go.of (fun _ => XS.aloadN H11.here hx rfl (hb hby d_prog_11_1_9) rfl rfl) ?_
  show Go p e below _ T10 (mkF m 10 #[.val (.ref a1), .val kv, .val (.ref tx), .val (.int p3), .val (.int p4)] [(.ref a1)])
  refine Go.of (fun _ => XS.aloadN H11.here hx rfl (hb hby d_prog_11_1_10) rfl rfl) ?_
  show Go p e below _ T10 (mkF m 11 #[.val (.ref a1), .val kv, .val (.ref tx), .val (.int p3), .val (.int p4)] [(.ref tx), (.ref a1)])
  refine own_putF H11 hx hown (host := "") (Or.inl (ow hw 47 rfl)) Via.refl f17 f15 (Or.inr ⟨(ow hw 48 rfl), rfl, hnm⟩) (ow hw 34 rfl) (ty := (.object "java/lang/String")) (by decide) rfl rfl g1 (own_exa f15) rfl rfl (hb hby d_prog_11_1_11) fun T20 h22 H21 W23 => ?_
  have K24 : Keep h0 h22 [a1] := K14.wr W23 (Or.inl (List.mem_of_getElem? (i := 0) rfl))
  have f25 := f15.wr W23
  have f26 := f16.other W23 (Or.inr (slot_ne (Or.inr (ow hw 46 rfl)) (Or.inr (ow hw 48 rfl)) (by decide) (t := (.object "com/example/entitled/entitled/lang/Token$Kind")) (t' := (.object "java/lang/String")) (by decide) (by decide)))
  have f27 := f17.same W23
  have f28 := f18.other W23 (Or.inr (slot_ne (Or.inr (ow hw 50 rfl)) (Or.inr (ow hw 48 rfl)) (by decide) (t := .int) (t' := (.object "java/lang/String")) (by decide) (by decide)))
  have f29 := f19.other W23 (Or.inr (slot_ne (Or.inr (ow hw 52 rfl)) (Or.inr (ow hw 48 rfl)) (by decide) (t := .int) (t' := (.object "java/lang/String")) (by decide) (by decide)))
  show Go p e below _ T20 (mkF m 14 #[.val (.ref a1), .val kv, .val (.ref tx), .val (.int p3), .val (.int p4)] [])
  refine Go.of (fun _ => XS.aloadN H21.here hx rfl (hb hby d_prog_11_1_14) rfl rfl) ?_
  show Go p e below _ T20 (mkF m 15 #[.val (.ref a1), .val kv, .val (.ref tx), .val (.int p3), .val (.int p4)] [(.ref a1)])
  refine Go.of (fun _ => XS.iloadN H21.here hx rfl (hb hby d_prog_11_1_15) rfl) ?_
  show Go p e below _ T20 (mkF m 16 #[.val (.ref a1), .val kv, .val (.ref tx), .val (.int p3), .val (.int p4)] [(.int p3), (.ref a1)])
  refine own_putF H21 hx hown (host := "") (Or.inl (ow hw 49 rfl)) Via.refl f28 f25 (Or.inr ⟨(ow hw 50 rfl), rfl, hnm⟩) (ow hw 34 rfl) (ty := .int) (by decide) rfl rfl g1 (own_exa f25) rfl rfl (hb hby d_prog_11_1_16) fun T30 h32 H31 W33 => ?_
  have K34 : Keep h0 h32 [a1] := K24.wr W33 (Or.inl (List.mem_of_getElem? (i := 0) rfl))
  have f35 := f25.wr W33
  have f36 := f26.other W33 (Or.inr (slot_ne (Or.inr (ow hw 46 rfl)) (Or.inr (ow hw 50 rfl)) (by decide) (t := (.object "com/example/entitled/entitled/lang/Token$Kind")) (t' := .int) (by decide) (by decide)))
  have f37 := f27.other W33 (Or.inr (slot_ne (Or.inr (ow hw 48 rfl)) (Or.inr (ow hw 50 rfl)) (by decide) (t := (.object "java/lang/String")) (t' := .int) (by decide) (by decide)))
  have f38 := f28.same W33
  have f39 := f29.other W33 (Or.inr (slot_ne (Or.inr (ow hw 52 rfl)) (Or.inr (ow hw 50 rfl)) (by decide) (t := .int) (t' := .int) (by decide) (by decide)))
  show Go p e below _ T30 (mkF m 19 #[.val (.ref a1), .val kv, .val (.ref tx), .val (.int p3), .val (.int p4)] [])
  refine Go.of (fun _ => XS.aloadN H31.here hx rfl (hb hby d_prog_11_1_19) rfl rfl) ?_
  show Go p e below _ T30 (mkF m 20 #[.val (.ref a1), .val kv, .val (.ref tx), .val (.int p3), .val (.int p4)] [(.ref a1)])
  refine Go.of (fun _ => XS.iload H31.here hx rfl (hb hby d_prog_11_1_20) rfl) ?_
  show Go p e below _ T30 (mkF m 22 #[.val (.ref a1), .val kv, .val (.ref tx), .val (.int p3), .val (.int p4)] [(.int p4), (.ref a1)])
  refine own_putF H31 hx hown (host := "") (Or.inl (ow hw 51 rfl)) Via.refl f39 f35 (Or.inr ⟨(ow hw 52 rfl), rfl, hnm⟩) (ow hw 34 rfl) (ty := .int) (by decide) rfl rfl g1 (own_exa f35) rfl rfl (hb hby d_prog_11_1_22) fun T40 h42 H41 W43 => ?_
  have K44 : Keep h0 h42 [a1] := K34.wr W43 (Or.inl (List.mem_of_getElem? (i := 0) rfl))
  have f45 := f35.wr W43
  have f46 := f36.other W43 (Or.inr (slot_ne (Or.inr (ow hw 46 rfl)) (Or.inr (ow hw 52 rfl)) (by decide) (t := (.object "com/example/entitled/entitled/lang/Token$Kind")) (t' := .int) (by decide) (by decide)))
  have f47 := f37.other W43 (Or.inr (slot_ne (Or.inr (ow hw 48 rfl)) (Or.inr (ow hw 52 rfl)) (by decide) (t := (.object "java/lang/String")) (t' := .int) (by decide) (by decide)))
  have f48 := f38.other W43 (Or.inr (slot_ne (Or.inr (ow hw 50 rfl)) (Or.inr (ow hw 52 rfl)) (by decide) (t := .int) (t' := .int) (by decide) (by decide)))
  have f49 := f39.same W43
  show Go p e below _ T40 (mkF m 25 #[.val (.ref a1), .val kv, .val (.ref tx), .val (.int p3), .val (.int p4)] [])
  exact own_ret H41 hx hlk hret (hb hby d_prog_11_1_25) ⟨rfl, K44, f45, f46, f47⟩ (by decide) (by decide)
set_option maxRecDepth 65536 in
set_option maxHeartbeats 40000000 in
theorem rm_eqN (l : Launch) (Z : State) (a0 : Array Value) (hw : ∀ d ∈ tables_1, d.before a0 Z = true) (hE : EW Z a0 ELx) (a1 : Addr) (h0 : Heap) (O0 : Ext Z.heap h0) :
    Ct l Z ELx a0 true (⟨"java/lang/String", "equals", "(Ljava/lang/Object;)Z"⟩ : MethodName) jdk_42_method_66_code 3 (some .boolean) [] ({ frames := 0, cells := 0, slots := 0, locals := 0 } : Room) #[(.ref a1), .null] h0 [] (fun v h => v = some (.int 0) ∧ h0 = h) := by
  refine own_enter (plainFor_of_name pn_0) hE O0 ?_
  intro p e s m below meth c s₁ hx hby hml hown hnm hret hlk H0
  refine Go.eq (ef_rm_eqN m a1) ?_
  show Go p e below _ s₁ (mkF m 0 #[.val (.ref a1), .val .null, .unset] [])
  refine Go.of (fun _ => XS.aloadN H0.here hx rfl (hb hby d_jdk_42_66_0) rfl rfl) ?_
  show Go p e below _ s₁ (mkF m 1 #[.val (.ref a1), .val .null, .unset] [(.ref a1)])
  refine Go.of (fun _ => XS.aloadN H0.here hx rfl (hb hby d_jdk_42_66_1) rfl rfl) ?_
  show Go p e below _ s₁ (mkF m 2 #[.val (.ref a1), .val .null, .unset] [.null, (.ref a1)])
  refine Go.of (fun _ => Jvm.Free.XT.acmpYes H0.here hx rfl (pc0 := 2) (pc' := 7) rfl (hb hby d_jdk_42_66_2) rfl rfl rfl (own_acNt (fun q => nomatch q)) (by decide) (by decide)) ?_
  show Go p e below _ s₁ (mkF m 7 #[.val (.ref a1), .val .null, .unset] [])
  refine Go.of (fun _ => XS.aloadN H0.here hx rfl (hb hby d_jdk_42_66_7) rfl rfl) ?_
  show Go p e below _ s₁ (mkF m 8 #[.val (.ref a1), .val .null, .unset] [.null])
  refine own_instNull H0 hx rfl rfl (hb hby d_jdk_42_66_8) ?_
  show Go p e below _ s₁ (mkF m 11 #[.val (.ref a1), .val .null, .unset] [(.int (0 : Int32))])
  refine Go.of (fun _ => XS.ifYes H0.here hx rfl (pc0 := 11) (pc' := 54) rfl (hb hby d_jdk_42_66_11) rfl ((if0 _ _).trans (teq (by decide : (0 : Int32) = (0 : Int32))).1) (by decide) (by decide)) ?_
  show Go p e below _ s₁ (mkF m 54 #[.val (.ref a1), .val .null, .unset] [])
  refine Go.of (fun _ => XS.iconst H0.here hx rfl (hb hby d_jdk_42_66_54)) ?_
  show Go p e below _ s₁ (mkF m 55 #[.val (.ref a1), .val .null, .unset] [(.int (0 : Int32))])
  exact own_retN H0 hx hlk (t := .boolean) hret (by simp) (hb hby d_jdk_42_66_55) ⟨rfl, rfl⟩ (by decide) (by decide)
set_option maxRecDepth 65536 in
set_option maxHeartbeats 40000000 in
theorem rm_is (l : Launch) (Z : State) (a0 : Array Value) (hw : ∀ d ∈ tables_1, d.before a0 Z = true) (hE : EW Z a0 ELx) (a1 : Addr) (kt : Value) (kv : Value) (tx : Addr) (ex : Addr) (cs : List Int32) (ds : List Int32) (zc : Int32) (h0 : Heap) (O0 : Ext Z.heap h0) (hkt : kt.isRef = true) (hkv : kv.isRef = true) (E1 : Exa Z h0 a1 "com/example/entitled/entitled/lang/Token") (F1 : Fld Z h0 a1 "com/example/entitled/entitled/lang/Token" "kind" "Lcom/example/entitled/entitled/lang/Token$Kind;" kt) (F2 : Fld Z h0 a1 "com/example/entitled/entitled/lang/Token" "text" "Ljava/lang/String;" (.ref tx)) (Sx : own_str Z h0 tx cs) (lx : cs.length ≤ 4000) (SC : Sta Z Z.heap "java/lang/String" "COMPACT_STRINGS" "Z" (.int zc)) (hzc : ¬ zc = 0) (Sy : own_str Z h0 ex ds) (ly : ds.length ≤ 4000) :
    Ct l Z ELx a0 true (⟨"com/example/entitled/entitled/lang/Token", "is", "(Lcom/example/entitled/entitled/lang/Token$Kind;Ljava/lang/String;)Z"⟩ : MethodName) prog_11_method_2_code 3 (some .boolean) [] ({ frames := 3, cells := 0, slots := 0, locals := 64 } : Room) #[(.ref a1), kv, (.ref ex)] h0 [] (fun v h => v = some (.int (if kt = kv ∧ cs = ds then 1 else 0)) ∧ h0 = h) := by
  refine own_enter (plainFor_of_name pn_3) hE O0 ?_
  intro p e s m below meth c s₁ hx hby hml hown hnm hret hlk H0
  refine Go.eq (ef_rm_is m a1 kv ex hkv) ?_
  show Go p e below _ s₁ (mkF m 0 #[.val (.ref a1), .val kv, .val (.ref ex)] [])
  refine Go.of (fun _ => XS.aloadN H0.here hx rfl (hb hby d_prog_11_2_0) rfl rfl) ?_
  show Go p e below _ s₁ (mkF m 1 #[.val (.ref a1), .val kv, .val (.ref ex)] [(.ref a1)])
  refine own_getF H0 hx hown (host := "") (Or.inl (ow hw 45 rfl)) Via.refl F1 rfl rfl (hb hby d_prog_11_2_1) fun T1 H2 => ?_
  show Go p e below _ T1 (mkF m 4 #[.val (.ref a1), .val kv, .val (.ref ex)] [kt])
  refine Go.of (fun _ => XS.aloadN H2.here hx rfl (hb hby d_prog_11_2_4) rfl hkv) ?_
  show Go p e below _ T1 (mkF m 5 #[.val (.ref a1), .val kv, .val (.ref ex)] [kv, kt])
  by_cases hc3 : (kt : Value) = kv
  · skip
    refine Go.of (fun _ => Jvm.Free.XT.acmpNo H2.here hx rfl (hb hby d_prog_11_2_5) rfl hkt hkv (own_acNf hc3)) ?_
    show Go p e below _ T1 (mkF m 8 #[.val (.ref a1), .val kv, .val (.ref ex)] [])
    refine Go.of (fun _ => XS.aloadN H2.here hx rfl (hb hby d_prog_11_2_8) rfl rfl) ?_
    show Go p e below _ T1 (mkF m 9 #[.val (.ref a1), .val kv, .val (.ref ex)] [(.ref a1)])
    refine own_getF H2 hx hown (host := "") (Or.inl (ow hw 47 rfl)) Via.refl F2 rfl rfl (hb hby d_prog_11_2_9) fun T4 H5 => ?_
    show Go p e below _ T4 (mkF m 12 #[.val (.ref a1), .val kv, .val (.ref ex)] [(.ref tx)])
    refine Go.of (fun _ => XS.aloadN H5.here hx rfl (hb hby d_prog_11_2_12) rfl rfl) ?_
    show Go p e below _ T4 (mkF m 13 #[.val (.ref a1), .val kv, .val (.ref ex)] [(.ref ex), (.ref tx)])
    refine own_eqS H5 hx hown (ow hw 89 rfl) (ow hw 90 rfl) (ow hw 92 rfl) (ow hw 91 rfl) (own_hwq hw) (ow hw 12 rfl) Sx Sy lx ly SC hzc (W := 0) (by decide) (by decide) rfl (by rw [hml]; rfl) rfl (by show 2 * 0 + _ ≤ _; exact Nat.le_of_eq rfl) (hb hby d_prog_11_2_13) (by decide) (by decide) fun T6 H7 => ?_
    show Go p e below _ T6 (mkF m 16 #[.val (.ref a1), .val kv, .val (.ref ex)] [(.int (if cs = ds then 1 else 0))])
    by_cases hq8 : cs = ds
    · skip
      rw [if_pos hq8]
      show Go p e below _ T6 (mkF m 16 #[.val (.ref a1), .val kv, .val (.ref ex)] [(.int (1 : Int32))])
      refine Go.of (fun _ => XS.ifNo H7.here hx rfl (hb hby d_prog_11_2_16) rfl ((if0 _ _).trans (feq (by decide : ¬ ((1 : Int32) = (0 : Int32)))).1)) ?_
      show Go p e below _ T6 (mkF m 19 #[.val (.ref a1), .val kv, .val (.ref ex)] [])
      refine Go.of (fun _ => XS.iconst H7.here hx rfl (hb hby d_prog_11_2_19)) ?_
      show Go p e below _ T6 (mkF m 20 #[.val (.ref a1), .val kv, .val (.ref ex)] [(.int (1 : Int32))])
      refine Go.of (fun _ => XS.goto H7.here hx rfl (pc0 := 20) (pc' := 24) rfl (hb hby d_prog_11_2_20) (by decide) (by decide)) ?_
      show Go p e below _ T6 (mkF m 24 #[.val (.ref a1), .val kv, .val (.ref ex)] [(.int (1 : Int32))])
      exact own_retN H7 hx hlk (t := .boolean) hret (by simp) (hb hby d_prog_11_2_24) ⟨by rw [if_pos ⟨hc3, hq8⟩]; rfl, rfl⟩ (by decide) (by decide)
    · skip
      rw [if_neg hq8]
      show Go p e below _ T6 (mkF m 16 #[.val (.ref a1), .val kv, .val (.ref ex)] [(.int (0 : Int32))])
      refine Go.of (fun _ => XS.ifYes H7.here hx rfl (pc0 := 16) (pc' := 23) rfl (hb hby d_prog_11_2_16) rfl ((if0 _ _).trans (teq (by decide : (0 : Int32) = (0 : Int32))).1) (by decide) (by decide)) ?_
      show Go p e below _ T6 (mkF m 23 #[.val (.ref a1), .val kv, .val (.ref ex)] [])
      refine Go.of (fun _ => XS.iconst H7.here hx rfl (hb hby d_prog_11_2_23)) ?_
      show Go p e below _ T6 (mkF m 24 #[.val (.ref a1), .val kv, .val (.ref ex)] [(.int (0 : Int32))])
      exact own_retN H7 hx hlk (t := .boolean) hret (by simp) (hb hby d_prog_11_2_24) ⟨by rw [if_neg (fun q => hq8 q.2)]; rfl, rfl⟩ (by decide) (by decide)
  · skip
    refine Go.of (fun _ => Jvm.Free.XT.acmpYes H2.here hx rfl (pc0 := 5) (pc' := 23) rfl (hb hby d_prog_11_2_5) rfl hkt hkv (own_acNt hc3) (by decide) (by decide)) ?_
    show Go p e below _ T1 (mkF m 23 #[.val (.ref a1), .val kv, .val (.ref ex)] [])
    refine Go.of (fun _ => XS.iconst H2.here hx rfl (hb hby d_prog_11_2_23)) ?_
    show Go p e below _ T1 (mkF m 24 #[.val (.ref a1), .val kv, .val (.ref ex)] [(.int (0 : Int32))])
    exact own_retN H2 hx hlk (t := .boolean) hret (by simp) (hb hby d_prog_11_2_24) ⟨by rw [if_neg (fun q => hc3 q.1)]; rfl, rfl⟩ (by decide) (by decide)
set_option maxRecDepth 65536 in
set_option maxHeartbeats 40000000 in
theorem rm_isN (l : Launch) (Z : State) (a0 : Array Value) (hw : ∀ d ∈ tables_1, d.before a0 Z = true) (hE : EW Z a0 ELx) (a1 : Addr) (kt : Value) (kv : Value) (tx : Addr) (cs : List Int32) (zc : Int32) (h0 : Heap) (O0 : Ext Z.heap h0) (hkt : kt.isRef = true) (hkv : kv.isRef = true) (E1 : Exa Z h0 a1 "com/example/entitled/entitled/lang/Token") (F1 : Fld Z h0 a1 "com/example/entitled/entitled/lang/Token" "kind" "Lcom/example/entitled/entitled/lang/Token$Kind;" kt) (F2 : Fld Z h0 a1 "com/example/entitled/entitled/lang/Token" "text" "Ljava/lang/String;" (.ref tx)) (Sx : own_str Z h0 tx cs) (lx : cs.length ≤ 4000) (SC : Sta Z Z.heap "java/lang/String" "COMPACT_STRINGS" "Z" (.int zc)) (hzc : ¬ zc = 0) :
    Ct l Z ELx a0 true (⟨"com/example/entitled/entitled/lang/Token", "is", "(Lcom/example/entitled/entitled/lang/Token$Kind;Ljava/lang/String;)Z"⟩ : MethodName) prog_11_method_2_code 3 (some .boolean) [] ({ frames := 1, cells := 0, slots := 0, locals := 16 } : Room) #[(.ref a1), kv, .null] h0 [] (fun v h => v = some (.int 0) ∧ h0 = h) := by
  refine own_enter (plainFor_of_name pn_3) hE O0 ?_
  intro p e s m below meth c s₁ hx hby hml hown hnm hret hlk H0
  refine Go.eq (ef_rm_isN m a1 kv hkv) ?_
  show Go p e below _ s₁ (mkF m 0 #[.val (.ref a1), .val kv, .val .null] [])
  refine Go.of (fun _ => XS.aloadN H0.here hx rfl (hb hby d_prog_11_2_0) rfl rfl) ?_
  show Go p e below _ s₁ (mkF m 1 #[.val (.ref a1), .val kv, .val .null] [(.ref a1)])
  refine own_getF H0 hx hown (host := "") (Or.inl (ow hw 45 rfl)) Via.refl F1 rfl rfl (hb hby d_prog_11_2_1) fun T1 H2 => ?_
  show Go p e below _ T1 (mkF m 4 #[.val (.ref a1), .val kv, .val .null] [kt])
  refine Go.of (fun _ => XS.aloadN H2.here hx rfl (hb hby d_prog_11_2_4) rfl hkv) ?_
  show Go p e below _ T1 (mkF m 5 #[.val (.ref a1), .val kv, .val .null] [kv, kt])
  by_cases hc3 : (kt : Value) = kv
  · skip
    refine Go.of (fun _ => Jvm.Free.XT.acmpNo H2.here hx rfl (hb hby d_prog_11_2_5) rfl hkt hkv (own_acNf hc3)) ?_
    show Go p e below _ T1 (mkF m 8 #[.val (.ref a1), .val kv, .val .null] [])
    refine Go.of (fun _ => XS.aloadN H2.here hx rfl (hb hby d_prog_11_2_8) rfl rfl) ?_
    show Go p e below _ T1 (mkF m 9 #[.val (.ref a1), .val kv, .val .null] [(.ref a1)])
    refine own_getF H2 hx hown (host := "") (Or.inl (ow hw 47 rfl)) Via.refl F2 rfl rfl (hb hby d_prog_11_2_9) fun T4 H5 => ?_
    show Go p e below _ T4 (mkF m 12 #[.val (.ref a1), .val kv, .val .null] [(.ref tx)])
    refine Go.of (fun _ => XS.aloadN H5.here hx rfl (hb hby d_prog_11_2_12) rfl rfl) ?_
    show Go p e below _ T4 (mkF m 13 #[.val (.ref a1), .val kv, .val .null] [.null, (.ref tx)])
    refine own_virtualW H5 hx (y := (⟨"java/lang/String", "equals", "(Ljava/lang/Object;)Z"⟩ : MethodName)) (z := (⟨"java/lang/String", "equals", "(Ljava/lang/Object;)Z"⟩ : MethodName)) hown (ow hw 89 rfl) (ow hw 90 rfl) (own_nf (ow hw 92 rfl) rfl) (ow hw 92 rfl) (ow hw 91 rfl) (ow hw 13 rfl) (ow hw 93 rfl) (by decide) (W := 0) (rm_eqN l Z a0 hw hE tx h0 H5.old) (fun _ hq => nomatch hq) (by decide) (by decide) Sx.exa rfl (by rw [hml]; rfl) (argsL := [.null]) (rest := []) rfl (lenOf pd_3 rfl) rfl (by show 2 * 0 + _ ≤ _; exact Nat.le_of_eq rfl) (hb hby d_prog_11_2_13) (by decide) (by decide) fun T6 h8 v10 H7 hs11 q9 => ?_
    obtain ⟨ve13, e12⟩ := q9
    subst e12
    subst ve13
    show Go p e below _ T6 (mkF m 16 #[.val (.ref a1), .val kv, .val .null] [(.int (0 : Int32))])
    refine Go.of (fun _ => XS.ifYes H7.here hx rfl (pc0 := 16) (pc' := 23) rfl (hb hby d_prog_11_2_16) rfl ((if0 _ _).trans (teq (by decide : (0 : Int32) = (0 : Int32))).1) (by decide) (by decide)) ?_
    show Go p e below _ T6 (mkF m 23 #[.val (.ref a1), .val kv, .val .null] [])
    refine Go.of (fun _ => XS.iconst H7.here hx rfl (hb hby d_prog_11_2_23)) ?_
    show Go p e below _ T6 (mkF m 24 #[.val (.ref a1), .val kv, .val .null] [(.int (0 : Int32))])
    exact own_retN H7 hx hlk (t := .boolean) hret (by simp) (hb hby d_prog_11_2_24) ⟨rfl, rfl⟩ (by decide) (by decide)
  · skip
    refine Go.of (fun _ => Jvm.Free.XT.acmpYes H2.here hx rfl (pc0 := 5) (pc' := 23) rfl (hb hby d_prog_11_2_5) rfl hkt hkv (own_acNt hc3) (by decide) (by decide)) ?_
    show Go p e below _ T1 (mkF m 23 #[.val (.ref a1), .val kv, .val .null] [])
    refine Go.of (fun _ => XS.iconst H2.here hx rfl (hb hby d_prog_11_2_23)) ?_
    show Go p e below _ T1 (mkF m 24 #[.val (.ref a1), .val kv, .val .null] [(.int (0 : Int32))])
    exact own_retN H2 hx hlk (t := .boolean) hret (by simp) (hb hby d_prog_11_2_24) ⟨rfl, rfl⟩ (by decide) (by decide)
set_option maxRecDepth 65536 in
set_option maxHeartbeats 40000000 in
theorem rm_sy (l : Launch) (Z : State) (a0 : Array Value) (hw : ∀ d ∈ tables_1, d.before a0 Z = true) (hE : EW Z a0 ELx) (a1 : Addr) (kt : Value) (tx : Addr) (ex : Addr) (cs : List Int32) (ds : List Int32) (zc : Int32) (w4 : Addr) (h0 : Heap) (O0 : Ext Z.heap h0) (hkt : kt.isRef = true) (E1 : Exa Z h0 a1 "com/example/entitled/entitled/lang/Token") (F1 : Fld Z h0 a1 "com/example/entitled/entitled/lang/Token" "kind" "Lcom/example/entitled/entitled/lang/Token$Kind;" kt) (F2 : Fld Z h0 a1 "com/example/entitled/entitled/lang/Token" "text" "Ljava/lang/String;" (.ref tx)) (Sx : own_str Z h0 tx cs) (lx : cs.length ≤ 4000) (SC : Sta Z Z.heap "java/lang/String" "COMPACT_STRINGS" "Z" (.int zc)) (hzc : ¬ zc = 0) (S1 : Sta Z Z.heap "com/example/entitled/entitled/lang/Token$Kind" "SYMBOL" "Lcom/example/entitled/entitled/lang/Token$Kind;" (.ref w4)) (Sy : own_str Z h0 ex ds) (ly : ds.length ≤ 4000) :
    Ct l Z ELx a0 true (⟨"com/example/entitled/entitled/lang/Token", "isSymbol", "(Ljava/lang/String;)Z"⟩ : MethodName) prog_11_method_3_code 2 (some .boolean) [] ({ frames := 4, cells := 0, slots := 0, locals := 78 } : Room) #[(.ref a1), (.ref ex)] h0 [] (fun v h => v = some (.int (if kt = .ref w4 ∧ cs = ds then 1 else 0)) ∧ h0 = h) := by
  refine own_enter (plainFor_of_name pn_3) hE O0 ?_
  intro p e s m below meth c s₁ hx hby hml hown hnm hret hlk H0
  refine Go.eq (ef_rm_sy m a1 ex) ?_
  show Go p e below _ s₁ (mkF m 0 #[.val (.ref a1), .val (.ref ex)] [])
  refine Go.of (fun _ => XS.aloadN H0.here hx rfl (hb hby d_prog_11_3_0) rfl rfl) ?_
  show Go p e below _ s₁ (mkF m 1 #[.val (.ref a1), .val (.ref ex)] [(.ref a1)])
  refine own_getS H0 hx hown (host := "") (Or.inl (ow hw 63 rfl)) Via.refl S1 rfl (hb hby d_prog_11_3_1) fun T1 H2 => ?_
  show Go p e below _ T1 (mkF m 4 #[.val (.ref a1), .val (.ref ex)] [(.ref w4), (.ref a1)])
  refine Go.of (fun _ => XS.aloadN H2.here hx rfl (hb hby d_prog_11_3_4) rfl rfl) ?_
  show Go p e below _ T1 (mkF m 5 #[.val (.ref a1), .val (.ref ex)] [(.ref ex), (.ref w4), (.ref a1)])
  refine own_virtualW H2 hx (y := (⟨"com/example/entitled/entitled/lang/Token", "is", "(Lcom/example/entitled/entitled/lang/Token$Kind;Ljava/lang/String;)Z"⟩ : MethodName)) (z := (⟨"com/example/entitled/entitled/lang/Token", "is", "(Lcom/example/entitled/entitled/lang/Token$Kind;Ljava/lang/String;)Z"⟩ : MethodName)) hown (ow hw 65 rfl) (ow hw 66 rfl) (own_nf (ow hw 68 rfl) rfl) (ow hw 68 rfl) (ow hw 67 rfl) (ow hw 35 rfl) (ow hw 69 rfl) (by decide) (W := 0) (rm_is l Z a0 hw hE a1 kt (.ref w4) tx ex cs ds zc h0 H2.old hkt rfl E1 F1 F2 Sx lx SC hzc Sy ly) (fun _ hq => nomatch hq) (by decide) (by decide) E1 rfl (by rw [hml]; rfl) (argsL := [(.ref w4), (.ref ex)]) (rest := []) rfl (lenOf pd_4 rfl) rfl (by show 2 * 0 + _ ≤ _; exact Nat.le_of_eq rfl) (hb hby d_prog_11_3_5) (by decide) (by decide) fun T3 h5 v7 H4 hs8 q6 => ?_
  obtain ⟨ve10, e9⟩ := q6
  subst e9
  subst ve10
  show Go p e below _ T3 (mkF m 8 #[.val (.ref a1), .val (.ref ex)] [(.int (if kt = (.ref w4) ∧ cs = ds then 1 else 0))])
  exact own_retN H4 hx hlk (t := .boolean) hret (by simp) (hb hby d_prog_11_3_8) ⟨by rw [own_nb], rfl⟩ (by decide) (by decide)
set_option maxRecDepth 65536 in
set_option maxHeartbeats 40000000 in
theorem rm_syN (l : Launch) (Z : State) (a0 : Array Value) (hw : ∀ d ∈ tables_1, d.before a0 Z = true) (hE : EW Z a0 ELx) (a1 : Addr) (kt : Value) (tx : Addr) (cs : List Int32) (zc : Int32) (w4 : Addr) (h0 : Heap) (O0 : Ext Z.heap h0) (hkt : kt.isRef = true) (E1 : Exa Z h0 a1 "com/example/entitled/entitled/lang/Token") (F1 : Fld Z h0 a1 "com/example/entitled/entitled/lang/Token" "kind" "Lcom/example/entitled/entitled/lang/Token$Kind;" kt) (F2 : Fld Z h0 a1 "com/example/entitled/entitled/lang/Token" "text" "Ljava/lang/String;" (.ref tx)) (Sx : own_str Z h0 tx cs) (lx : cs.length ≤ 4000) (SC : Sta Z Z.heap "java/lang/String" "COMPACT_STRINGS" "Z" (.int zc)) (hzc : ¬ zc = 0) (S1 : Sta Z Z.heap "com/example/entitled/entitled/lang/Token$Kind" "SYMBOL" "Lcom/example/entitled/entitled/lang/Token$Kind;" (.ref w4)) :
    Ct l Z ELx a0 true (⟨"com/example/entitled/entitled/lang/Token", "isSymbol", "(Ljava/lang/String;)Z"⟩ : MethodName) prog_11_method_3_code 2 (some .boolean) [] ({ frames := 2, cells := 0, slots := 0, locals := 30 } : Room) #[(.ref a1), .null] h0 [] (fun v h => v = some (.int 0) ∧ h0 = h) := by
  refine own_enter (plainFor_of_name pn_3) hE O0 ?_
  intro p e s m below meth c s₁ hx hby hml hown hnm hret hlk H0
  refine Go.eq (ef_rm_syN m a1) ?_
  show Go p e below _ s₁ (mkF m 0 #[.val (.ref a1), .val .null] [])
  refine Go.of (fun _ => XS.aloadN H0.here hx rfl (hb hby d_prog_11_3_0) rfl rfl) ?_
  show Go p e below _ s₁ (mkF m 1 #[.val (.ref a1), .val .null] [(.ref a1)])
  refine own_getS H0 hx hown (host := "") (Or.inl (ow hw 63 rfl)) Via.refl S1 rfl (hb hby d_prog_11_3_1) fun T1 H2 => ?_
  show Go p e below _ T1 (mkF m 4 #[.val (.ref a1), .val .null] [(.ref w4), (.ref a1)])
  refine Go.of (fun _ => XS.aloadN H2.here hx rfl (hb hby d_prog_11_3_4) rfl rfl) ?_
  show Go p e below _ T1 (mkF m 5 #[.val (.ref a1), .val .null] [.null, (.ref w4), (.ref a1)])
  refine own_virtualW H2 hx (y := (⟨"com/example/entitled/entitled/lang/Token", "is", "(Lcom/example/entitled/entitled/lang/Token$Kind;Ljava/lang/String;)Z"⟩ : MethodName)) (z := (⟨"com/example/entitled/entitled/lang/Token", "is", "(Lcom/example/entitled/entitled/lang/Token$Kind;Ljava/lang/String;)Z"⟩ : MethodName)) hown (ow hw 65 rfl) (ow hw 66 rfl) (own_nf (ow hw 68 rfl) rfl) (ow hw 68 rfl) (ow hw 67 rfl) (ow hw 35 rfl) (ow hw 69 rfl) (by decide) (W := 0) (rm_isN l Z a0 hw hE a1 kt (.ref w4) tx cs zc h0 H2.old hkt rfl E1 F1 F2 Sx lx SC hzc) (fun _ hq => nomatch hq) (by decide) (by decide) E1 rfl (by rw [hml]; rfl) (argsL := [(.ref w4), .null]) (rest := []) rfl (lenOf pd_4 rfl) rfl (by show 2 * 0 + _ ≤ _; exact Nat.le_of_eq rfl) (hb hby d_prog_11_3_5) (by decide) (by decide) fun T3 h5 v7 H4 hs8 q6 => ?_
  obtain ⟨ve10, e9⟩ := q6
  subst e9
  subst ve10
  show Go p e below _ T3 (mkF m 8 #[.val (.ref a1), .val .null] [(.int (0 : Int32))])
  exact own_retN H4 hx hlk (t := .boolean) hret (by simp) (hb hby d_prog_11_3_8) ⟨rfl, rfl⟩ (by decide) (by decide)
set_option maxRecDepth 65536 in
set_option maxHeartbeats 40000000 in
theorem rm_kw (l : Launch) (Z : State) (a0 : Array Value) (hw : ∀ d ∈ tables_1, d.before a0 Z = true) (hE : EW Z a0 ELx) (a1 : Addr) (kt : Value) (tx : Addr) (ex : Addr) (cs : List Int32) (ds : List Int32) (zc : Int32) (w1 : Addr) (h0 : Heap) (O0 : Ext Z.heap h0) (hkt : kt.isRef = true) (E1 : Exa Z h0 a1 "com/example/entitled/entitled/lang/Token") (F1 : Fld Z h0 a1 "com/example/entitled/entitled/lang/Token" "kind" "Lcom/example/entitled/entitled/lang/Token$Kind;" kt) (F2 : Fld Z h0 a1 "com/example/entitled/entitled/lang/Token" "text" "Ljava/lang/String;" (.ref tx)) (Sx : own_str Z h0 tx cs) (lx : cs.length ≤ 4000) (SC : Sta Z Z.heap "java/lang/String" "COMPACT_STRINGS" "Z" (.int zc)) (hzc : ¬ zc = 0) (S1 : Sta Z Z.heap "com/example/entitled/entitled/lang/Token$Kind" "KEYWORD" "Lcom/example/entitled/entitled/lang/Token$Kind;" (.ref w1)) (Sy : own_str Z h0 ex ds) (ly : ds.length ≤ 4000) :
    Ct l Z ELx a0 true (⟨"com/example/entitled/entitled/lang/Token", "isKeyword", "(Ljava/lang/String;)Z"⟩ : MethodName) prog_11_method_4_code 2 (some .boolean) [] ({ frames := 4, cells := 0, slots := 0, locals := 78 } : Room) #[(.ref a1), (.ref ex)] h0 [] (fun v h => v = some (.int (if kt = .ref w1 ∧ cs = ds then 1 else 0)) ∧ h0 = h) := by
  refine own_enter (plainFor_of_name pn_3) hE O0 ?_
  intro p e s m below meth c s₁ hx hby hml hown hnm hret hlk H0
  refine Go.eq (ef_rm_kw m a1 ex) ?_
  show Go p e below _ s₁ (mkF m 0 #[.val (.ref a1), .val (.ref ex)] [])
  refine Go.of (fun _ => XS.aloadN H0.here hx rfl (hb hby d_prog_11_4_0) rfl rfl) ?_
  show Go p e below _ s₁ (mkF m 1 #[.val (.ref a1), .val (.ref ex)] [(.ref a1)])
  refine own_getS H0 hx hown (host := "") (Or.inl (ow hw 75 rfl)) Via.refl S1 rfl (hb hby d_prog_11_4_1) fun T1 H2 => ?_
  show Go p e below _ T1 (mkF m 4 #[.val (.ref a1), .val (.ref ex)] [(.ref w1), (.ref a1)])
  refine Go.of (fun _ => XS.aloadN H2.here hx rfl (hb hby d_prog_11_4_4) rfl rfl) ?_
  show Go p e below _ T1 (mkF m 5 #[.val (.ref a1), .val (.ref ex)] [(.ref ex), (.ref w1), (.ref a1)])
  refine own_virtualW H2 hx (y := (⟨"com/example/entitled/entitled/lang/Token", "is", "(Lcom/example/entitled/entitled/lang/Token$Kind;Ljava/lang/String;)Z"⟩ : MethodName)) (z := (⟨"com/example/entitled/entitled/lang/Token", "is", "(Lcom/example/entitled/entitled/lang/Token$Kind;Ljava/lang/String;)Z"⟩ : MethodName)) hown (ow hw 65 rfl) (ow hw 66 rfl) (own_nf (ow hw 68 rfl) rfl) (ow hw 68 rfl) (ow hw 67 rfl) (ow hw 35 rfl) (ow hw 69 rfl) (by decide) (W := 0) (rm_is l Z a0 hw hE a1 kt (.ref w1) tx ex cs ds zc h0 H2.old hkt rfl E1 F1 F2 Sx lx SC hzc Sy ly) (fun _ hq => nomatch hq) (by decide) (by decide) E1 rfl (by rw [hml]; rfl) (argsL := [(.ref w1), (.ref ex)]) (rest := []) rfl (lenOf pd_4 rfl) rfl (by show 2 * 0 + _ ≤ _; exact Nat.le_of_eq rfl) (hb hby d_prog_11_4_5) (by decide) (by decide) fun T3 h5 v7 H4 hs8 q6 => ?_
  obtain ⟨ve10, e9⟩ := q6
  subst e9
  subst ve10
  show Go p e below _ T3 (mkF m 8 #[.val (.ref a1), .val (.ref ex)] [(.int (if kt = (.ref w1) ∧ cs = ds then 1 else 0))])
  exact own_retN H4 hx hlk (t := .boolean) hret (by simp) (hb hby d_prog_11_4_8) ⟨by rw [own_nb], rfl⟩ (by decide) (by decide)
set_option maxRecDepth 65536 in
set_option maxHeartbeats 40000000 in
theorem rm_kwN (l : Launch) (Z : State) (a0 : Array Value) (hw : ∀ d ∈ tables_1, d.before a0 Z = true) (hE : EW Z a0 ELx) (a1 : Addr) (kt : Value) (tx : Addr) (cs : List Int32) (zc : Int32) (w1 : Addr) (h0 : Heap) (O0 : Ext Z.heap h0) (hkt : kt.isRef = true) (E1 : Exa Z h0 a1 "com/example/entitled/entitled/lang/Token") (F1 : Fld Z h0 a1 "com/example/entitled/entitled/lang/Token" "kind" "Lcom/example/entitled/entitled/lang/Token$Kind;" kt) (F2 : Fld Z h0 a1 "com/example/entitled/entitled/lang/Token" "text" "Ljava/lang/String;" (.ref tx)) (Sx : own_str Z h0 tx cs) (lx : cs.length ≤ 4000) (SC : Sta Z Z.heap "java/lang/String" "COMPACT_STRINGS" "Z" (.int zc)) (hzc : ¬ zc = 0) (S1 : Sta Z Z.heap "com/example/entitled/entitled/lang/Token$Kind" "KEYWORD" "Lcom/example/entitled/entitled/lang/Token$Kind;" (.ref w1)) :
    Ct l Z ELx a0 true (⟨"com/example/entitled/entitled/lang/Token", "isKeyword", "(Ljava/lang/String;)Z"⟩ : MethodName) prog_11_method_4_code 2 (some .boolean) [] ({ frames := 2, cells := 0, slots := 0, locals := 30 } : Room) #[(.ref a1), .null] h0 [] (fun v h => v = some (.int 0) ∧ h0 = h) := by
  refine own_enter (plainFor_of_name pn_3) hE O0 ?_
  intro p e s m below meth c s₁ hx hby hml hown hnm hret hlk H0
  refine Go.eq (ef_rm_kwN m a1) ?_
  show Go p e below _ s₁ (mkF m 0 #[.val (.ref a1), .val .null] [])
  refine Go.of (fun _ => XS.aloadN H0.here hx rfl (hb hby d_prog_11_4_0) rfl rfl) ?_
  show Go p e below _ s₁ (mkF m 1 #[.val (.ref a1), .val .null] [(.ref a1)])
  refine own_getS H0 hx hown (host := "") (Or.inl (ow hw 75 rfl)) Via.refl S1 rfl (hb hby d_prog_11_4_1) fun T1 H2 => ?_
  show Go p e below _ T1 (mkF m 4 #[.val (.ref a1), .val .null] [(.ref w1), (.ref a1)])
  refine Go.of (fun _ => XS.aloadN H2.here hx rfl (hb hby d_prog_11_4_4) rfl rfl) ?_
  show Go p e below _ T1 (mkF m 5 #[.val (.ref a1), .val .null] [.null, (.ref w1), (.ref a1)])
  refine own_virtualW H2 hx (y := (⟨"com/example/entitled/entitled/lang/Token", "is", "(Lcom/example/entitled/entitled/lang/Token$Kind;Ljava/lang/String;)Z"⟩ : MethodName)) (z := (⟨"com/example/entitled/entitled/lang/Token", "is", "(Lcom/example/entitled/entitled/lang/Token$Kind;Ljava/lang/String;)Z"⟩ : MethodName)) hown (ow hw 65 rfl) (ow hw 66 rfl) (own_nf (ow hw 68 rfl) rfl) (ow hw 68 rfl) (ow hw 67 rfl) (ow hw 35 rfl) (ow hw 69 rfl) (by decide) (W := 0) (rm_isN l Z a0 hw hE a1 kt (.ref w1) tx cs zc h0 H2.old hkt rfl E1 F1 F2 Sx lx SC hzc) (fun _ hq => nomatch hq) (by decide) (by decide) E1 rfl (by rw [hml]; rfl) (argsL := [(.ref w1), .null]) (rest := []) rfl (lenOf pd_4 rfl) rfl (by show 2 * 0 + _ ≤ _; exact Nat.le_of_eq rfl) (hb hby d_prog_11_4_5) (by decide) (by decide) fun T3 h5 v7 H4 hs8 q6 => ?_
  obtain ⟨ve10, e9⟩ := q6
  subst e9
  subst ve10
  show Go p e below _ T3 (mkF m 8 #[.val (.ref a1), .val .null] [(.int (0 : Int32))])
  exact own_retN H4 hx hlk (t := .boolean) hret (by simp) (hb hby d_prog_11_4_8) ⟨rfl, rfl⟩ (by decide) (by decide)
set_option maxRecDepth 65536 in
set_option maxHeartbeats 40000000 in
theorem rm_op (l : Launch) (Z : State) (a0 : Array Value) (hw : ∀ d ∈ tables_1, d.before a0 Z = true) (hE : EW Z a0 ELx) (a1 : Addr) (kt : Value) (tx : Addr) (ex : Addr) (cs : List Int32) (ds : List Int32) (zc : Int32) (w4 : Addr) (w1 : Addr) (h0 : Heap) (O0 : Ext Z.heap h0) (hkt : kt.isRef = true) (E1 : Exa Z h0 a1 "com/example/entitled/entitled/lang/Token") (F1 : Fld Z h0 a1 "com/example/entitled/entitled/lang/Token" "kind" "Lcom/example/entitled/entitled/lang/Token$Kind;" kt) (F2 : Fld Z h0 a1 "com/example/entitled/entitled/lang/Token" "text" "Ljava/lang/String;" (.ref tx)) (Sx : own_str Z h0 tx cs) (lx : cs.length ≤ 4000) (SC : Sta Z Z.heap "java/lang/String" "COMPACT_STRINGS" "Z" (.int zc)) (hzc : ¬ zc = 0) (U4 : Sta Z Z.heap "com/example/entitled/entitled/lang/Token$Kind" "SYMBOL" "Lcom/example/entitled/entitled/lang/Token$Kind;" (.ref w4)) (U1 : Sta Z Z.heap "com/example/entitled/entitled/lang/Token$Kind" "KEYWORD" "Lcom/example/entitled/entitled/lang/Token$Kind;" (.ref w1)) (Sy : own_str Z h0 ex ds) (ly : ds.length ≤ 4000) :
    Ct l Z ELx a0 true (⟨"com/example/entitled/entitled/lang/Token", "isOperator", "(Ljava/lang/String;)Z"⟩ : MethodName) prog_11_method_5_code 2 (some .boolean) [] ({ frames := 5, cells := 0, slots := 0, locals := 91 } : Room) #[(.ref a1), (.ref ex)] h0 [] (fun v h => v = some (.int (if (kt = .ref w4 ∧ cs = ds) ∨ (kt = .ref w1 ∧ cs = ds) then 1 else 0)) ∧ h0 = h) := by
  refine own_enter (plainFor_of_name pn_3) hE O0 ?_
  intro p e s m below meth c s₁ hx hby hml hown hnm hret hlk H0
  refine Go.eq (ef_rm_op m a1 ex) ?_
  show Go p e below _ s₁ (mkF m 0 #[.val (.ref a1), .val (.ref ex)] [])
  refine Go.of (fun _ => XS.aloadN H0.here hx rfl (hb hby d_prog_11_5_0) rfl rfl) ?_
  show Go p e below _ s₁ (mkF m 1 #[.val (.ref a1), .val (.ref ex)] [(.ref a1)])
  refine Go.of (fun _ => XS.aloadN H0.here hx rfl (hb hby d_prog_11_5_1) rfl rfl) ?_
  show Go p e below _ s₁ (mkF m 2 #[.val (.ref a1), .val (.ref ex)] [(.ref ex), (.ref a1)])
  refine own_virtualW H0 hx (y := (⟨"com/example/entitled/entitled/lang/Token", "isSymbol", "(Ljava/lang/String;)Z"⟩ : MethodName)) (z := (⟨"com/example/entitled/entitled/lang/Token", "isSymbol", "(Ljava/lang/String;)Z"⟩ : MethodName)) hown (ow hw 58 rfl) (ow hw 59 rfl) (own_nf (ow hw 61 rfl) rfl) (ow hw 61 rfl) (ow hw 60 rfl) (ow hw 35 rfl) (ow hw 62 rfl) (by decide) (W := 0) (rm_sy l Z a0 hw hE a1 kt tx ex cs ds zc w4 h0 H0.old hkt E1 F1 F2 Sx lx SC hzc U4 Sy ly) (fun _ hq => nomatch hq) (by decide) (by decide) E1 rfl (by rw [hml]; rfl) (argsL := [(.ref ex)]) (rest := []) rfl (lenOf pd_5 rfl) rfl (by show 2 * 0 + _ ≤ _; exact Nat.le_of_eq rfl) (hb hby d_prog_11_5_2) (by decide) (by decide) fun T1 h3 v5 H2 hs6 q4 => ?_
  obtain ⟨ve8, e7⟩ := q4
  subst e7
  subst ve8
  show Go p e below _ T1 (mkF m 5 #[.val (.ref a1), .val (.ref ex)] [(.int (if kt = .ref w4 ∧ cs = ds then 1 else 0))])
  by_cases hq9 : (kt = .ref w4 ∧ cs = ds)
  · skip
    rw [if_pos hq9]
    show Go p e below _ T1 (mkF m 5 #[.val (.ref a1), .val (.ref ex)] [(.int (1 : Int32))])
    refine Go.of (fun _ => XS.ifYes H2.here hx rfl (pc0 := 5) (pc' := 16) rfl (hb hby d_prog_11_5_5) rfl ((if0 _ _).trans (feq (by decide : ¬ ((1 : Int32) = (0 : Int32)))).2) (by decide) (by decide)) ?_
    show Go p e below _ T1 (mkF m 16 #[.val (.ref a1), .val (.ref ex)] [])
    refine Go.of (fun _ => XS.iconst H2.here hx rfl (hb hby d_prog_11_5_16)) ?_
    show Go p e below _ T1 (mkF m 17 #[.val (.ref a1), .val (.ref ex)] [(.int (1 : Int32))])
    refine Go.of (fun _ => XS.goto H2.here hx rfl (pc0 := 17) (pc' := 21) rfl (hb hby d_prog_11_5_17) (by decide) (by decide)) ?_
    show Go p e below _ T1 (mkF m 21 #[.val (.ref a1), .val (.ref ex)] [(.int (1 : Int32))])
    exact own_retN H2 hx hlk (t := .boolean) hret (by simp) (hb hby d_prog_11_5_21) ⟨by rw [if_pos (Or.inl hq9)]; rfl, rfl⟩ (by decide) (by decide)
  · skip
    rw [if_neg hq9]
    show Go p e below _ T1 (mkF m 5 #[.val (.ref a1), .val (.ref ex)] [(.int (0 : Int32))])
    refine Go.of (fun _ => XS.ifNo H2.here hx rfl (hb hby d_prog_11_5_5) rfl ((if0 _ _).trans (teq (by decide : (0 : Int32) = (0 : Int32))).2)) ?_
    show Go p e below _ T1 (mkF m 8 #[.val (.ref a1), .val (.ref ex)] [])
    refine Go.of (fun _ => XS.aloadN H2.here hx rfl (hb hby d_prog_11_5_8) rfl rfl) ?_
    show Go p e below _ T1 (mkF m 9 #[.val (.ref a1), .val (.ref ex)] [(.ref a1)])
    refine Go.of (fun _ => XS.aloadN H2.here hx rfl (hb hby d_prog_11_5_9) rfl rfl) ?_
    show Go p e below _ T1 (mkF m 10 #[.val (.ref a1), .val (.ref ex)] [(.ref ex), (.ref a1)])
    refine own_virtualW H2 hx (y := (⟨"com/example/entitled/entitled/lang/Token", "isKeyword", "(Ljava/lang/String;)Z"⟩ : MethodName)) (z := (⟨"com/example/entitled/entitled/lang/Token", "isKeyword", "(Ljava/lang/String;)Z"⟩ : MethodName)) hown (ow hw 70 rfl) (ow hw 71 rfl) (own_nf (ow hw 73 rfl) rfl) (ow hw 73 rfl) (ow hw 72 rfl) (ow hw 35 rfl) (ow hw 74 rfl) (by decide) (W := 0) (rm_kw l Z a0 hw hE a1 kt tx ex cs ds zc w1 h0 H2.old hkt E1 F1 F2 Sx lx SC hzc U1 Sy ly) (fun _ hq => nomatch hq) (by decide) (by decide) E1 rfl (by rw [hml]; rfl) (argsL := [(.ref ex)]) (rest := []) rfl (lenOf pd_5 rfl) rfl (by show 2 * 0 + _ ≤ _; exact Nat.le_of_eq rfl) (hb hby d_prog_11_5_10) (by decide) (by decide) fun T10 h12 v14 H11 hs15 q13 => ?_
    obtain ⟨ve17, e16⟩ := q13
    subst e16
    subst ve17
    show Go p e below _ T10 (mkF m 13 #[.val (.ref a1), .val (.ref ex)] [(.int (if kt = .ref w1 ∧ cs = ds then 1 else 0))])
    by_cases hq18 : (kt = .ref w1 ∧ cs = ds)
    · skip
      rw [if_pos hq18]
      show Go p e below _ T10 (mkF m 13 #[.val (.ref a1), .val (.ref ex)] [(.int (1 : Int32))])
      refine Go.of (fun _ => XS.ifNo H11.here hx rfl (hb hby d_prog_11_5_13) rfl ((if0 _ _).trans (feq (by decide : ¬ ((1 : Int32) = (0 : Int32)))).1)) ?_
      show Go p e below _ T10 (mkF m 16 #[.val (.ref a1), .val (.ref ex)] [])
      refine Go.of (fun _ => XS.iconst H11.here hx rfl (hb hby d_prog_11_5_16)) ?_
      show Go p e below _ T10 (mkF m 17 #[.val (.ref a1), .val (.ref ex)] [(.int (1 : Int32))])
      refine Go.of (fun _ => XS.goto H11.here hx rfl (pc0 := 17) (pc' := 21) rfl (hb hby d_prog_11_5_17) (by decide) (by decide)) ?_
      show Go p e below _ T10 (mkF m 21 #[.val (.ref a1), .val (.ref ex)] [(.int (1 : Int32))])
      exact own_retN H11 hx hlk (t := .boolean) hret (by simp) (hb hby d_prog_11_5_21) ⟨by rw [if_pos (Or.inr hq18)]; rfl, rfl⟩ (by decide) (by decide)
    · skip
      rw [if_neg hq18]
      show Go p e below _ T10 (mkF m 13 #[.val (.ref a1), .val (.ref ex)] [(.int (0 : Int32))])
      refine Go.of (fun _ => XS.ifYes H11.here hx rfl (pc0 := 13) (pc' := 20) rfl (hb hby d_prog_11_5_13) rfl ((if0 _ _).trans (teq (by decide : (0 : Int32) = (0 : Int32))).1) (by decide) (by decide)) ?_
      show Go p e below _ T10 (mkF m 20 #[.val (.ref a1), .val (.ref ex)] [])
      refine Go.of (fun _ => XS.iconst H11.here hx rfl (hb hby d_prog_11_5_20)) ?_
      show Go p e below _ T10 (mkF m 21 #[.val (.ref a1), .val (.ref ex)] [(.int (0 : Int32))])
      exact own_retN H11 hx hlk (t := .boolean) hret (by simp) (hb hby d_prog_11_5_21) ⟨by rw [if_neg (fun q => q.elim hq9 hq18)]; rfl, rfl⟩ (by decide) (by decide)
set_option maxRecDepth 65536 in
set_option maxHeartbeats 40000000 in
theorem rm_opN (l : Launch) (Z : State) (a0 : Array Value) (hw : ∀ d ∈ tables_1, d.before a0 Z = true) (hE : EW Z a0 ELx) (a1 : Addr) (kt : Value) (tx : Addr) (cs : List Int32) (zc : Int32) (w4 : Addr) (w1 : Addr) (h0 : Heap) (O0 : Ext Z.heap h0) (hkt : kt.isRef = true) (E1 : Exa Z h0 a1 "com/example/entitled/entitled/lang/Token") (F1 : Fld Z h0 a1 "com/example/entitled/entitled/lang/Token" "kind" "Lcom/example/entitled/entitled/lang/Token$Kind;" kt) (F2 : Fld Z h0 a1 "com/example/entitled/entitled/lang/Token" "text" "Ljava/lang/String;" (.ref tx)) (Sx : own_str Z h0 tx cs) (lx : cs.length ≤ 4000) (SC : Sta Z Z.heap "java/lang/String" "COMPACT_STRINGS" "Z" (.int zc)) (hzc : ¬ zc = 0) (U4 : Sta Z Z.heap "com/example/entitled/entitled/lang/Token$Kind" "SYMBOL" "Lcom/example/entitled/entitled/lang/Token$Kind;" (.ref w4)) (U1 : Sta Z Z.heap "com/example/entitled/entitled/lang/Token$Kind" "KEYWORD" "Lcom/example/entitled/entitled/lang/Token$Kind;" (.ref w1)) :
    Ct l Z ELx a0 true (⟨"com/example/entitled/entitled/lang/Token", "isOperator", "(Ljava/lang/String;)Z"⟩ : MethodName) prog_11_method_5_code 2 (some .boolean) [] ({ frames := 3, cells := 0, slots := 0, locals := 43 } : Room) #[(.ref a1), .null] h0 [] (fun v h => v = some (.int 0) ∧ h0 = h) := by
  refine own_enter (plainFor_of_name pn_3) hE O0 ?_
  intro p e s m below meth c s₁ hx hby hml hown hnm hret hlk H0
  refine Go.eq (ef_rm_opN m a1) ?_
  show Go p e below _ s₁ (mkF m 0 #[.val (.ref a1), .val .null] [])
  refine Go.of (fun _ => XS.aloadN H0.here hx rfl (hb hby d_prog_11_5_0) rfl rfl) ?_
  show Go p e below _ s₁ (mkF m 1 #[.val (.ref a1), .val .null] [(.ref a1)])
  refine Go.of (fun _ => XS.aloadN H0.here hx rfl (hb hby d_prog_11_5_1) rfl rfl) ?_
  show Go p e below _ s₁ (mkF m 2 #[.val (.ref a1), .val .null] [.null, (.ref a1)])
  refine own_virtualW H0 hx (y := (⟨"com/example/entitled/entitled/lang/Token", "isSymbol", "(Ljava/lang/String;)Z"⟩ : MethodName)) (z := (⟨"com/example/entitled/entitled/lang/Token", "isSymbol", "(Ljava/lang/String;)Z"⟩ : MethodName)) hown (ow hw 58 rfl) (ow hw 59 rfl) (own_nf (ow hw 61 rfl) rfl) (ow hw 61 rfl) (ow hw 60 rfl) (ow hw 35 rfl) (ow hw 62 rfl) (by decide) (W := 0) (rm_syN l Z a0 hw hE a1 kt tx cs zc w4 h0 H0.old hkt E1 F1 F2 Sx lx SC hzc U4) (fun _ hq => nomatch hq) (by decide) (by decide) E1 rfl (by rw [hml]; rfl) (argsL := [.null]) (rest := []) rfl (lenOf pd_5 rfl) rfl (by show 2 * 0 + _ ≤ _; exact Nat.le_of_eq rfl) (hb hby d_prog_11_5_2) (by decide) (by decide) fun T1 h3 v5 H2 hs6 q4 => ?_
  obtain ⟨ve8, e7⟩ := q4
  subst e7
  subst ve8
  show Go p e below _ T1 (mkF m 5 #[.val (.ref a1), .val .null] [(.int (0 : Int32))])
  refine Go.of (fun _ => XS.ifNo H2.here hx rfl (hb hby d_prog_11_5_5) rfl ((if0 _ _).trans (teq (by decide : (0 : Int32) = (0 : Int32))).2)) ?_
  show Go p e below _ T1 (mkF m 8 #[.val (.ref a1), .val .null] [])
  refine Go.of (fun _ => XS.aloadN H2.here hx rfl (hb hby d_prog_11_5_8) rfl rfl) ?_
  show Go p e below _ T1 (mkF m 9 #[.val (.ref a1), .val .null] [(.ref a1)])
  refine Go.of (fun _ => XS.aloadN H2.here hx rfl (hb hby d_prog_11_5_9) rfl rfl) ?_
  show Go p e below _ T1 (mkF m 10 #[.val (.ref a1), .val .null] [.null, (.ref a1)])
  refine own_virtualW H2 hx (y := (⟨"com/example/entitled/entitled/lang/Token", "isKeyword", "(Ljava/lang/String;)Z"⟩ : MethodName)) (z := (⟨"com/example/entitled/entitled/lang/Token", "isKeyword", "(Ljava/lang/String;)Z"⟩ : MethodName)) hown (ow hw 70 rfl) (ow hw 71 rfl) (own_nf (ow hw 73 rfl) rfl) (ow hw 73 rfl) (ow hw 72 rfl) (ow hw 35 rfl) (ow hw 74 rfl) (by decide) (W := 0) (rm_kwN l Z a0 hw hE a1 kt tx cs zc w1 h0 H2.old hkt E1 F1 F2 Sx lx SC hzc U1) (fun _ hq => nomatch hq) (by decide) (by decide) E1 rfl (by rw [hml]; rfl) (argsL := [.null]) (rest := []) rfl (lenOf pd_5 rfl) rfl (by show 2 * 0 + _ ≤ _; exact Nat.le_of_eq rfl) (hb hby d_prog_11_5_10) (by decide) (by decide) fun T9 h11 v13 H10 hs14 q12 => ?_
  obtain ⟨ve16, e15⟩ := q12
  subst e15
  subst ve16
  show Go p e below _ T9 (mkF m 13 #[.val (.ref a1), .val .null] [(.int (0 : Int32))])
  refine Go.of (fun _ => XS.ifYes H10.here hx rfl (pc0 := 13) (pc' := 20) rfl (hb hby d_prog_11_5_13) rfl ((if0 _ _).trans (teq (by decide : (0 : Int32) = (0 : Int32))).1) (by decide) (by decide)) ?_
  show Go p e below _ T9 (mkF m 20 #[.val (.ref a1), .val .null] [])
  refine Go.of (fun _ => XS.iconst H10.here hx rfl (hb hby d_prog_11_5_20)) ?_
  show Go p e below _ T9 (mkF m 21 #[.val (.ref a1), .val .null] [(.int (0 : Int32))])
  exact own_retN H10 hx hlk (t := .boolean) hret (by simp) (hb hby d_prog_11_5_21) ⟨rfl, rfl⟩ (by decide) (by decide)
set_option maxRecDepth 65536 in
set_option maxHeartbeats 40000000 in
theorem rm_law (l : Launch) (Z : State) (a0 : Array Value) (hw : ∀ d ∈ tables_1, d.before a0 Z = true) (hE : EW Z a0 ELx) (p0 : Int32) (p1 : Int32) (p2 : Int32) (p3 : Int32) (p4 : Int32) (p5 : Int32) (w0 : Addr) (w1 : Addr) (w2 : Addr) (w3 : Addr) (w4 : Addr) (w5 : Addr) (zc : Int32) (h0 : Heap) (O0 : Ext Z.heap h0) (S0 : Sta Z Z.heap "com/example/entitled/entitled/lang/Token$Kind" "IDENTIFIER" "Lcom/example/entitled/entitled/lang/Token$Kind;" (.ref w0)) (S1 : Sta Z Z.heap "com/example/entitled/entitled/lang/Token$Kind" "KEYWORD" "Lcom/example/entitled/entitled/lang/Token$Kind;" (.ref w1)) (S2 : Sta Z Z.heap "com/example/entitled/entitled/lang/Token$Kind" "STRING" "Lcom/example/entitled/entitled/lang/Token$Kind;" (.ref w2)) (S3 : Sta Z Z.heap "com/example/entitled/entitled/lang/Token$Kind" "NUMBER" "Lcom/example/entitled/entitled/lang/Token$Kind;" (.ref w3)) (S4 : Sta Z Z.heap "com/example/entitled/entitled/lang/Token$Kind" "SYMBOL" "Lcom/example/entitled/entitled/lang/Token$Kind;" (.ref w4)) (S5 : Sta Z Z.heap "com/example/entitled/entitled/lang/Token$Kind" "END" "Lcom/example/entitled/entitled/lang/Token$Kind;" (.ref w5)) (Q0 : Fld Z Z.heap w0 "java/lang/Enum" "ordinal" "I" (.int 0)) (Q1 : Fld Z Z.heap w1 "java/lang/Enum" "ordinal" "I" (.int 1)) (Q2 : Fld Z Z.heap w2 "java/lang/Enum" "ordinal" "I" (.int 2)) (Q3 : Fld Z Z.heap w3 "java/lang/Enum" "ordinal" "I" (.int 3)) (Q4 : Fld Z Z.heap w4 "java/lang/Enum" "ordinal" "I" (.int 4)) (Q5 : Fld Z Z.heap w5 "java/lang/Enum" "ordinal" "I" (.int 5)) (SC : Sta Z Z.heap "java/lang/String" "COMPACT_STRINGS" "Z" (.int zc)) (hzc : ¬ zc = 0) :
    Ct l Z ELx a0 true x code maxLocals ret tables_1 room_1 #[(.int p0), (.int p1), (.int p2), (.int p3), (.int p4), (.int p5)] h0 [] (fun v h => v = some (.int 1)) := by
  refine own_enter (plainFor_of_name pn_1) hE O0 ?_
  intro p e s m below meth c s₁ hx hby hml hown hnm hret hlk H0
  have hml : c.maxLocals = 21 := hml
  have hret : meth.sig.returnType = (some .boolean) := hret
  refine Go.eq (ef_rm_law m p0 p1 p2 p3 p4 p5) ?_
  have hst := own_hst hw
  have J9_1 : ∀ (ki : Int32), (¬ ki < 0 ∧ ki < 6) → Go p e below (own_fin Z ELx true s below (fun v h => v = some (.int 1)) (room_1).cells (room_1).slots) s₁ (mkF m 9 #[.val (.int p0), .val (.int p1), .val (.int p2), .val (.int p3), .val (.int p4), .val (.int p5), .val (.int ki), .unset, .unset, .unset, .unset, .unset, .unset, .unset, .unset, .unset, .unset, .unset, .unset, .unset, .unset] []) := by
    intro ki hki
    show Go p e below _ s₁ (mkF m 9 #[.val (.int p0), .val (.int p1), .val (.int p2), .val (.int p3), .val (.int p4), .val (.int p5), .val (.int ki), .unset, .unset, .unset, .unset, .unset, .unset, .unset, .unset, .unset, .unset, .unset, .unset, .unset, .unset] [])
    refine Go.of (fun _ => XS.iload H0.here hx rfl (hb hby at_9) rfl) ?_
    show Go p e below _ s₁ (mkF m 11 #[.val (.int p0), .val (.int p1), .val (.int p2), .val (.int p3), .val (.int p4), .val (.int p5), .val (.int ki), .unset, .unset, .unset, .unset, .unset, .unset, .unset, .unset, .unset, .unset, .unset, .unset, .unset, .unset] [(.int ki)])
    refine own_staticW H0 hx (y := (⟨"com/example/entitled/entitled/lang/TokenIsOperatorPinLaw", "kindOf", "(I)Lcom/example/entitled/entitled/lang/Token$Kind;"⟩ : MethodName)) hown (ow hw 1 rfl) (ow hw 2 rfl) (ow hw 3 rfl) (ow hw 4 rfl) (by decide) (W := 0) (rm_kind l Z a0 hw hE ki w0 w1 w2 w3 w4 w5 h0 H0.old S0 S1 S2 S3 S4 S5) (fun _ hq => nomatch hq) (by decide) (by decide) rfl (by rw [hml]; rfl) (argsL := [(.int ki)]) (rest := []) rfl (lenOf pd_6 rfl) rfl (by show 2 * 0 + _ ≤ _; exact Nat.le_of_eq rfl) (hb hby at_11) (by decide) (by decide) fun T2 h4 v6 H3 hs7 q5 => ?_
    obtain ⟨ve9, e8⟩ := q5
    subst e8
    subst ve9
    show Go p e below _ T2 (mkF m 14 #[.val (.int p0), .val (.int p1), .val (.int p2), .val (.int p3), .val (.int p4), .val (.int p5), .val (.int ki), .unset, .unset, .unset, .unset, .unset, .unset, .unset, .unset, .unset, .unset, .unset, .unset, .unset, .unset] [(own_kind ki w0 w1 w2 w3 w4 w5)])
    refine Go.of (fun _ => XS.astore H3.here hx rfl (hb hby at_14) rfl (own_kind_ref _ _ _ _ _ _ _) (l' := #[.val (.int p0), .val (.int p1), .val (.int p2), .val (.int p3), .val (.int p4), .val (.int p5), .val (.int ki), .val (own_kind ki w0 w1 w2 w3 w4 w5), .unset, .unset, .unset, .unset, .unset, .unset, .unset, .unset, .unset, .unset, .unset, .unset, .unset]) (by have q : ((own_kind ki w0 w1 w2 w3 w4 w5)).isRef = true := (own_kind_ref _ _ _ _ _ _ _); revert q; generalize (own_kind ki w0 w1 w2 w3 w4 w5) = vv; intro q; rcases ref_cases q with rfl | ⟨_, rfl⟩ <;> rfl)) ?_
    show Go p e below _ T2 (mkF m 16 #[.val (.int p0), .val (.int p1), .val (.int p2), .val (.int p3), .val (.int p4), .val (.int p5), .val (.int ki), .val (own_kind ki w0 w1 w2 w3 w4 w5), .unset, .unset, .unset, .unset, .unset, .unset, .unset, .unset, .unset, .unset, .unset, .unset, .unset] [])
    have J123_10 : ∀ (lt : Int32) (t0 : Int32) (t1 : Int32) (o0 : Int32) (o1 : Int32) (lo : Int32) (nu : Int32), (¬ lt < 0 ∧ lt < 3) → (¬ t0 < 0 ∧ ¬ (255 : Int32) < t0) → (¬ t1 < 0 ∧ ¬ (255 : Int32) < t1) → (¬ o0 < 0 ∧ ¬ (255 : Int32) < o0) → (¬ o1 < 0 ∧ ¬ (255 : Int32) < o1) → (¬ lo < 0 ∧ lo < 3) → (nu = 0 ∨ nu = 1) → Go p e below (own_fin Z ELx true s below (fun v h => v = some (.int 1)) (room_1).cells (room_1).slots) T2 (mkF m 123 #[.val (.int p0), .val (.int p1), .val (.int p2), .val (.int p3), .val (.int p4), .val (.int p5), .val (.int ki), .val (own_kind ki w0 w1 w2 w3 w4 w5), .val (.int lt), .val (.int t0), .val (.int t1), .val (.int o0), .val (.int o1), .val (.int lo), .val (.int nu), .unset, .unset, .unset, .unset, .unset, .unset] []) := by
      intro lt t0 t1 o0 o1 lo nu hlt ht0 ht1 ho0 ho1 hlo hnu
      show Go p e below _ T2 (mkF m 123 #[.val (.int p0), .val (.int p1), .val (.int p2), .val (.int p3), .val (.int p4), .val (.int p5), .val (.int ki), .val (own_kind ki w0 w1 w2 w3 w4 w5), .val (.int lt), .val (.int t0), .val (.int t1), .val (.int o0), .val (.int o1), .val (.int lo), .val (.int nu), .unset, .unset, .unset, .unset, .unset, .unset] [])
      refine Go.of (fun _ => XS.iload H3.here hx rfl (hb hby at_123) rfl) ?_
      show Go p e below _ T2 (mkF m 125 #[.val (.int p0), .val (.int p1), .val (.int p2), .val (.int p3), .val (.int p4), .val (.int p5), .val (.int ki), .val (own_kind ki w0 w1 w2 w3 w4 w5), .val (.int lt), .val (.int t0), .val (.int t1), .val (.int o0), .val (.int o1), .val (.int lo), .val (.int nu), .unset, .unset, .unset, .unset, .unset, .unset] [(.int lt)])
      refine Go.of (fun _ => XS.iload H3.here hx rfl (hb hby at_125) rfl) ?_
      show Go p e below _ T2 (mkF m 127 #[.val (.int p0), .val (.int p1), .val (.int p2), .val (.int p3), .val (.int p4), .val (.int p5), .val (.int ki), .val (own_kind ki w0 w1 w2 w3 w4 w5), .val (.int lt), .val (.int t0), .val (.int t1), .val (.int o0), .val (.int o1), .val (.int lo), .val (.int nu), .unset, .unset, .unset, .unset, .unset, .unset] [(.int t0), (.int lt)])
      refine Go.of (fun _ => XS.iload H3.here hx rfl (hb hby at_127) rfl) ?_
      show Go p e below _ T2 (mkF m 129 #[.val (.int p0), .val (.int p1), .val (.int p2), .val (.int p3), .val (.int p4), .val (.int p5), .val (.int ki), .val (own_kind ki w0 w1 w2 w3 w4 w5), .val (.int lt), .val (.int t0), .val (.int t1), .val (.int o0), .val (.int o1), .val (.int lo), .val (.int nu), .unset, .unset, .unset, .unset, .unset, .unset] [(.int t1), (.int t0), (.int lt)])
      refine own_staticW H3 hx (y := (⟨"com/example/entitled/entitled/lang/TokenIsOperatorPinLaw", "mk", "(ICC)Ljava/lang/String;"⟩ : MethodName)) hown (ow hw 8 rfl) (ow hw 9 rfl) (ow hw 3 rfl) (ow hw 10 rfl) (by decide) (W := 0) (rm_str l Z a0 hw hE lt t0 t1 zc h0 H3.old SC hzc ht0 ht1) (fun _ hq => nomatch hq) (by decide) (by decide) rfl (by rw [hml]; rfl) (argsL := [(.int lt), (.int t0), (.int t1)]) (rest := []) rfl (lenOf pd_7 rfl) rfl (by show 2 * 0 + _ ≤ _; exact Nat.le_of_eq rfl) (hb hby at_129) (by decide) (by decide) fun T11 h13 v15 H12 hs16 q14 => ?_
      obtain ⟨tx, rfl, K17, z19, S18⟩ := q14
      show Go p e below _ T11 (mkF m 132 #[.val (.int p0), .val (.int p1), .val (.int p2), .val (.int p3), .val (.int p4), .val (.int p5), .val (.int ki), .val (own_kind ki w0 w1 w2 w3 w4 w5), .val (.int lt), .val (.int t0), .val (.int t1), .val (.int o0), .val (.int o1), .val (.int lo), .val (.int nu), .unset, .unset, .unset, .unset, .unset, .unset] [(.ref tx)])
      refine Go.of (fun _ => XS.astore H12.here hx rfl (hb hby at_132) rfl rfl (l' := #[.val (.int p0), .val (.int p1), .val (.int p2), .val (.int p3), .val (.int p4), .val (.int p5), .val (.int ki), .val (own_kind ki w0 w1 w2 w3 w4 w5), .val (.int lt), .val (.int t0), .val (.int t1), .val (.int o0), .val (.int o1), .val (.int lo), .val (.int nu), .val (.ref tx), .unset, .unset, .unset, .unset, .unset]) rfl) ?_
      show Go p e below _ T11 (mkF m 134 #[.val (.int p0), .val (.int p1), .val (.int p2), .val (.int p3), .val (.int p4), .val (.int p5), .val (.int ki), .val (own_kind ki w0 w1 w2 w3 w4 w5), .val (.int lt), .val (.int t0), .val (.int t1), .val (.int o0), .val (.int o1), .val (.int lo), .val (.int nu), .val (.ref tx), .unset, .unset, .unset, .unset, .unset] [])
      refine Go.of (fun _ => XS.iload H12.here hx rfl (hb hby at_134) rfl) ?_
      show Go p e below _ T11 (mkF m 136 #[.val (.int p0), .val (.int p1), .val (.int p2), .val (.int p3), .val (.int p4), .val (.int p5), .val (.int ki), .val (own_kind ki w0 w1 w2 w3 w4 w5), .val (.int lt), .val (.int t0), .val (.int t1), .val (.int o0), .val (.int o1), .val (.int lo), .val (.int nu), .val (.ref tx), .unset, .unset, .unset, .unset, .unset] [(.int nu)])
      rcases hnu with hnu | hnu
      · skip
        subst hnu
        show Go p e below _ T11 (mkF m 136 #[.val (.int p0), .val (.int p1), .val (.int p2), .val (.int p3), .val (.int p4), .val (.int p5), .val (.int ki), .val (own_kind ki w0 w1 w2 w3 w4 w5), .val (.int lt), .val (.int t0), .val (.int t1), .val (.int o0), .val (.int o1), .val (.int lo), .val (.int (0 : Int32)), .val (.ref tx), .unset, .unset, .unset, .unset, .unset] [(.int (0 : Int32))])
        refine Go.of (fun _ => XS.ifYes H12.here hx rfl (pc0 := 136) (pc' := 143) rfl (hb hby at_136) rfl ((if0 _ _).trans (teq (by decide : (0 : Int32) = (0 : Int32))).1) (by decide) (by decide)) ?_
        show Go p e below _ T11 (mkF m 143 #[.val (.int p0), .val (.int p1), .val (.int p2), .val (.int p3), .val (.int p4), .val (.int p5), .val (.int ki), .val (own_kind ki w0 w1 w2 w3 w4 w5), .val (.int lt), .val (.int t0), .val (.int t1), .val (.int o0), .val (.int o1), .val (.int lo), .val (.int (0 : Int32)), .val (.ref tx), .unset, .unset, .unset, .unset, .unset] [])
        refine Go.of (fun _ => XS.iload H12.here hx rfl (hb hby at_143) rfl) ?_
        show Go p e below _ T11 (mkF m 145 #[.val (.int p0), .val (.int p1), .val (.int p2), .val (.int p3), .val (.int p4), .val (.int p5), .val (.int ki), .val (own_kind ki w0 w1 w2 w3 w4 w5), .val (.int lt), .val (.int t0), .val (.int t1), .val (.int o0), .val (.int o1), .val (.int lo), .val (.int (0 : Int32)), .val (.ref tx), .unset, .unset, .unset, .unset, .unset] [(.int lo)])
        refine Go.of (fun _ => XS.iload H12.here hx rfl (hb hby at_145) rfl) ?_
        show Go p e below _ T11 (mkF m 147 #[.val (.int p0), .val (.int p1), .val (.int p2), .val (.int p3), .val (.int p4), .val (.int p5), .val (.int ki), .val (own_kind ki w0 w1 w2 w3 w4 w5), .val (.int lt), .val (.int t0), .val (.int t1), .val (.int o0), .val (.int o1), .val (.int lo), .val (.int (0 : Int32)), .val (.ref tx), .unset, .unset, .unset, .unset, .unset] [(.int o0), (.int lo)])
        refine Go.of (fun _ => XS.iload H12.here hx rfl (hb hby at_147) rfl) ?_
        show Go p e below _ T11 (mkF m 149 #[.val (.int p0), .val (.int p1), .val (.int p2), .val (.int p3), .val (.int p4), .val (.int p5), .val (.int ki), .val (own_kind ki w0 w1 w2 w3 w4 w5), .val (.int lt), .val (.int t0), .val (.int t1), .val (.int o0), .val (.int o1), .val (.int lo), .val (.int (0 : Int32)), .val (.ref tx), .unset, .unset, .unset, .unset, .unset] [(.int o1), (.int o0), (.int lo)])
        refine own_staticW H12 hx (y := (⟨"com/example/entitled/entitled/lang/TokenIsOperatorPinLaw", "mk", "(ICC)Ljava/lang/String;"⟩ : MethodName)) hown (ow hw 8 rfl) (ow hw 9 rfl) (ow hw 3 rfl) (ow hw 10 rfl) (by decide) (W := 0) (rm_str l Z a0 hw hE lo o0 o1 zc h13 H12.old SC hzc ho0 ho1) (fun _ hq => nomatch hq) (by decide) (by decide) rfl (by rw [hml]; rfl) (argsL := [(.int lo), (.int o0), (.int o1)]) (rest := []) rfl (lenOf pd_7 rfl) rfl (by show 2 * 0 + _ ≤ _; exact Nat.le_of_eq rfl) (hb hby at_149) (by decide) (by decide) fun T20 h22 v24 H21 hs25 q23 => ?_
        obtain ⟨ex, rfl, K26, z28, S27⟩ := q23
        have S29 := S18.keep0 K26
        show Go p e below _ T20 (mkF m 152 #[.val (.int p0), .val (.int p1), .val (.int p2), .val (.int p3), .val (.int p4), .val (.int p5), .val (.int ki), .val (own_kind ki w0 w1 w2 w3 w4 w5), .val (.int lt), .val (.int t0), .val (.int t1), .val (.int o0), .val (.int o1), .val (.int lo), .val (.int (0 : Int32)), .val (.ref tx), .unset, .unset, .unset, .unset, .unset] [(.ref ex)])
        refine Go.of (fun _ => XS.astore H21.here hx rfl (hb hby at_152) rfl rfl (l' := #[.val (.int p0), .val (.int p1), .val (.int p2), .val (.int p3), .val (.int p4), .val (.int p5), .val (.int ki), .val (own_kind ki w0 w1 w2 w3 w4 w5), .val (.int lt), .val (.int t0), .val (.int t1), .val (.int o0), .val (.int o1), .val (.int lo), .val (.int (0 : Int32)), .val (.ref tx), .val (.ref ex), .unset, .unset, .unset, .unset]) rfl) ?_
        show Go p e below _ T20 (mkF m 154 #[.val (.int p0), .val (.int p1), .val (.int p2), .val (.int p3), .val (.int p4), .val (.int p5), .val (.int ki), .val (own_kind ki w0 w1 w2 w3 w4 w5), .val (.int lt), .val (.int t0), .val (.int t1), .val (.int o0), .val (.int o1), .val (.int lo), .val (.int (0 : Int32)), .val (.ref tx), .val (.ref ex), .unset, .unset, .unset, .unset] [])
        refine own_new H21 hx hown (ow hw 33 rfl) (ow hw 34 rfl) (ow hw 35 rfl) rfl (hb hby at_154) (by decide) (by decide) fun T30 h32 b33 g34 H31 E35 A36 D37 => ?_
        have fr38 : Z.heap.size ≤ b33 := by rw [g34]; exact H21.old.1
        have S39 := S29.ext E35
        have S40 := S27.ext E35
        have f41 : Fld Z h32 b33 "com/example/entitled/entitled/lang/Token" "kind" "Lcom/example/entitled/entitled/lang/Token$Kind;" .null := D37 (Or.inr (ow hw 46 rfl)) (ty := (.object "com/example/entitled/entitled/lang/Token$Kind")) (by decide)
        have f42 : Fld Z h32 b33 "com/example/entitled/entitled/lang/Token" "text" "Ljava/lang/String;" .null := D37 (Or.inr (ow hw 48 rfl)) (ty := (.object "java/lang/String")) (by decide)
        have f43 : Fld Z h32 b33 "com/example/entitled/entitled/lang/Token" "line" "I" (.int (0 : Int32)) := D37 (Or.inr (ow hw 50 rfl)) (ty := .int) (by decide)
        have f44 : Fld Z h32 b33 "com/example/entitled/entitled/lang/Token" "column" "I" (.int (0 : Int32)) := D37 (Or.inr (ow hw 52 rfl)) (ty := .int) (by decide)
        show Go p e below _ T30 (mkF m 157 #[.val (.int p0), .val (.int p1), .val (.int p2), .val (.int p3), .val (.int p4), .val (.int p5), .val (.int ki), .val (own_kind ki w0 w1 w2 w3 w4 w5), .val (.int lt), .val (.int t0), .val (.int t1), .val (.int o0), .val (.int o1), .val (.int lo), .val (.int (0 : Int32)), .val (.ref tx), .val (.ref ex), .unset, .unset, .unset, .unset] [(.ref b33)])
        refine Go.of (fun _ => XS.dup H31.here hx rfl (hb hby at_157) rfl rfl) ?_
        show Go p e below _ T30 (mkF m 158 #[.val (.int p0), .val (.int p1), .val (.int p2), .val (.int p3), .val (.int p4), .val (.int p5), .val (.int ki), .val (own_kind ki w0 w1 w2 w3 w4 w5), .val (.int lt), .val (.int t0), .val (.int t1), .val (.int o0), .val (.int o1), .val (.int lo), .val (.int (0 : Int32)), .val (.ref tx), .val (.ref ex), .unset, .unset, .unset, .unset] [(.ref b33), (.ref b33)])
        refine Go.of (fun _ => XS.aload H31.here hx rfl (hb hby at_158) rfl (own_kind_ref _ _ _ _ _ _ _)) ?_
        show Go p e below _ T30 (mkF m 160 #[.val (.int p0), .val (.int p1), .val (.int p2), .val (.int p3), .val (.int p4), .val (.int p5), .val (.int ki), .val (own_kind ki w0 w1 w2 w3 w4 w5), .val (.int lt), .val (.int t0), .val (.int t1), .val (.int o0), .val (.int o1), .val (.int lo), .val (.int (0 : Int32)), .val (.ref tx), .val (.ref ex), .unset, .unset, .unset, .unset] [(own_kind ki w0 w1 w2 w3 w4 w5), (.ref b33), (.ref b33)])
        refine Go.of (fun _ => XS.aload H31.here hx rfl (hb hby at_160) rfl rfl) ?_
        show Go p e below _ T30 (mkF m 162 #[.val (.int p0), .val (.int p1), .val (.int p2), .val (.int p3), .val (.int p4), .val (.int p5), .val (.int ki), .val (own_kind ki w0 w1 w2 w3 w4 w5), .val (.int lt), .val (.int t0), .val (.int t1), .val (.int o0), .val (.int o1), .val (.int lo), .val (.int (0 : Int32)), .val (.ref tx), .val (.ref ex), .unset, .unset, .unset, .unset] [(.ref tx), (own_kind ki w0 w1 w2 w3 w4 w5), (.ref b33), (.ref b33)])
        refine Go.of (fun _ => XS.iload H31.here hx rfl (hb hby at_162) rfl) ?_
        show Go p e below _ T30 (mkF m 164 #[.val (.int p0), .val (.int p1), .val (.int p2), .val (.int p3), .val (.int p4), .val (.int p5), .val (.int ki), .val (own_kind ki w0 w1 w2 w3 w4 w5), .val (.int lt), .val (.int t0), .val (.int t1), .val (.int o0), .val (.int o1), .val (.int lo), .val (.int (0 : Int32)), .val (.ref tx), .val (.ref ex), .unset, .unset, .unset, .unset] [(.int p4), (.ref tx), (own_kind ki w0 w1 w2 w3 w4 w5), (.ref b33), (.ref b33)])
        refine Go.of (fun _ => XS.iloadN H31.here hx rfl (hb hby at_164) rfl) ?_
        show Go p e below _ T30 (mkF m 165 #[.val (.int p0), .val (.int p1), .val (.int p2), .val (.int p3), .val (.int p4), .val (.int p5), .val (.int ki), .val (own_kind ki w0 w1 w2 w3 w4 w5), .val (.int lt), .val (.int t0), .val (.int t1), .val (.int o0), .val (.int o1), .val (.int lo), .val (.int (0 : Int32)), .val (.ref tx), .val (.ref ex), .unset, .unset, .unset, .unset] [(.int p0), (.int p4), (.ref tx), (own_kind ki w0 w1 w2 w3 w4 w5), (.ref b33), (.ref b33)])
        refine own_specialW H31 hx (y := (⟨"com/example/entitled/entitled/lang/Token", "<init>", "(Lcom/example/entitled/entitled/lang/Token$Kind;Ljava/lang/String;II)V"⟩ : MethodName)) rfl hown (ow hw 36 rfl) (ow hw 37 rfl) (ow hw 35 rfl) (ow hw 38 rfl) (by decide) (W := 1) (rm_ti l Z a0 hw hE b33 (own_kind ki w0 w1 w2 w3 w4 w5) tx p4 p0 h32 H31.old (own_kind_ref _ _ _ _ _ _ _) A36 f41 f42 f43 f44 fr38) (fun _ hq => nomatch hq) (by decide) (by decide) rfl (by rw [hml]; rfl) (a := b33) (argsL := [(own_kind ki w0 w1 w2 w3 w4 w5), (.ref tx), (.int p4), (.int p0)]) (rest := [(.ref b33)]) rfl (lenOf pd_8 rfl) rfl (by show 2 * 0 + _ ≤ _; exact Nat.le_of_eq rfl) (hb hby at_165) (by decide) (by decide) fun T45 h47 v49 H46 hs50 q48 => ?_
        obtain ⟨rfl, K51, E52, F53, F54⟩ := q48
        have S55 := S39.keep (a0 := a0) K51 (allS ⟨_, _, A36, by decide, (ow hw 34 rfl)⟩ all0)
        have S56 := S40.keep (a0 := a0) K51 (allS ⟨_, _, A36, by decide, (ow hw 34 rfl)⟩ all0)
        show Go p e below _ T45 (mkF m 168 #[.val (.int p0), .val (.int p1), .val (.int p2), .val (.int p3), .val (.int p4), .val (.int p5), .val (.int ki), .val (own_kind ki w0 w1 w2 w3 w4 w5), .val (.int lt), .val (.int t0), .val (.int t1), .val (.int o0), .val (.int o1), .val (.int lo), .val (.int (0 : Int32)), .val (.ref tx), .val (.ref ex), .unset, .unset, .unset, .unset] [(.ref b33)])
        refine Go.of (fun _ => XS.astore H46.here hx rfl (hb hby at_168) rfl rfl (l' := #[.val (.int p0), .val (.int p1), .val (.int p2), .val (.int p3), .val (.int p4), .val (.int p5), .val (.int ki), .val (own_kind ki w0 w1 w2 w3 w4 w5), .val (.int lt), .val (.int t0), .val (.int t1), .val (.int o0), .val (.int o1), .val (.int lo), .val (.int (0 : Int32)), .val (.ref tx), .val (.ref ex), .val (.ref b33), .unset, .unset, .unset]) rfl) ?_
        show Go p e below _ T45 (mkF m 170 #[.val (.int p0), .val (.int p1), .val (.int p2), .val (.int p3), .val (.int p4), .val (.int p5), .val (.int ki), .val (own_kind ki w0 w1 w2 w3 w4 w5), .val (.int lt), .val (.int t0), .val (.int t1), .val (.int o0), .val (.int o1), .val (.int lo), .val (.int (0 : Int32)), .val (.ref tx), .val (.ref ex), .val (.ref b33), .unset, .unset, .unset] [])
        refine Go.of (fun _ => XS.aload H46.here hx rfl (hb hby at_170) rfl rfl) ?_
        show Go p e below _ T45 (mkF m 172 #[.val (.int p0), .val (.int p1), .val (.int p2), .val (.int p3), .val (.int p4), .val (.int p5), .val (.int ki), .val (own_kind ki w0 w1 w2 w3 w4 w5), .val (.int lt), .val (.int t0), .val (.int t1), .val (.int o0), .val (.int o1), .val (.int lo), .val (.int (0 : Int32)), .val (.ref tx), .val (.ref ex), .val (.ref b33), .unset, .unset, .unset] [(.ref b33)])
        refine Go.of (fun _ => XS.aload H46.here hx rfl (hb hby at_172) rfl rfl) ?_
        show Go p e below _ T45 (mkF m 174 #[.val (.int p0), .val (.int p1), .val (.int p2), .val (.int p3), .val (.int p4), .val (.int p5), .val (.int ki), .val (own_kind ki w0 w1 w2 w3 w4 w5), .val (.int lt), .val (.int t0), .val (.int t1), .val (.int o0), .val (.int o1), .val (.int lo), .val (.int (0 : Int32)), .val (.ref tx), .val (.ref ex), .val (.ref b33), .unset, .unset, .unset] [(.ref ex), (.ref b33)])
        refine own_virtualW H46 hx (y := (⟨"com/example/entitled/entitled/lang/Token", "isOperator", "(Ljava/lang/String;)Z"⟩ : MethodName)) (z := (⟨"com/example/entitled/entitled/lang/Token", "isOperator", "(Ljava/lang/String;)Z"⟩ : MethodName)) hown (ow hw 53 rfl) (ow hw 54 rfl) (own_nf (ow hw 56 rfl) rfl) (ow hw 56 rfl) (ow hw 55 rfl) (ow hw 35 rfl) (ow hw 57 rfl) (by decide) (W := 0) (rm_op l Z a0 hw hE b33 (own_kind ki w0 w1 w2 w3 w4 w5) tx ex (own_cs lt t0 t1) (own_cs lo o0 o1) zc w4 w1 h47 H46.old (own_kind_ref _ _ _ _ _ _ _) E52 F53 F54 S55 (own_cslen _ _ _) SC hzc S4 S1 S56 (own_cslen _ _ _)) (fun _ hq => nomatch hq) (by decide) (by decide) E52 rfl (by rw [hml]; rfl) (argsL := [(.ref ex)]) (rest := []) rfl (lenOf pd_5 rfl) rfl (by show 2 * 0 + _ ≤ _; exact Nat.le_of_eq rfl) (hb hby at_174) (by decide) (by decide) fun T57 h59 v61 H58 hs62 q60 => ?_
        obtain ⟨ve64, e63⟩ := q60
        subst e63
        subst ve64
        rw [own_gw (Z := Z) (w0 := w0) (w1 := w1) (w2 := w2) (w3 := w3) (w4 := w4) (w5 := w5) hki hlt hlo Q0 Q1 Q2 Q3 Q4 Q5]
        show Go p e below _ T57 (mkF m 177 #[.val (.int p0), .val (.int p1), .val (.int p2), .val (.int p3), .val (.int p4), .val (.int p5), .val (.int ki), .val (own_kind ki w0 w1 w2 w3 w4 w5), .val (.int lt), .val (.int t0), .val (.int t1), .val (.int o0), .val (.int o1), .val (.int lo), .val (.int (0 : Int32)), .val (.ref tx), .val (.ref ex), .val (.ref b33), .unset, .unset, .unset] [(.int (own_want ki lt lo t0 t1 o0 o1))])
        refine Go.of (fun _ => XS.istore H58.here hx rfl (hb hby at_177) rfl (l' := #[.val (.int p0), .val (.int p1), .val (.int p2), .val (.int p3), .val (.int p4), .val (.int p5), .val (.int ki), .val (own_kind ki w0 w1 w2 w3 w4 w5), .val (.int lt), .val (.int t0), .val (.int t1), .val (.int o0), .val (.int o1), .val (.int lo), .val (.int (0 : Int32)), .val (.ref tx), .val (.ref ex), .val (.ref b33), .val (.int (own_want ki lt lo t0 t1 o0 o1)), .unset, .unset]) rfl) ?_
        show Go p e below _ T57 (mkF m 179 #[.val (.int p0), .val (.int p1), .val (.int p2), .val (.int p3), .val (.int p4), .val (.int p5), .val (.int ki), .val (own_kind ki w0 w1 w2 w3 w4 w5), .val (.int lt), .val (.int t0), .val (.int t1), .val (.int o0), .val (.int o1), .val (.int lo), .val (.int (0 : Int32)), .val (.ref tx), .val (.ref ex), .val (.ref b33), .val (.int (own_want ki lt lo t0 t1 o0 o1)), .unset, .unset] [])
        refine Go.of (fun _ => XS.iload H58.here hx rfl (hb hby at_179) rfl) ?_
        show Go p e below _ T57 (mkF m 181 #[.val (.int p0), .val (.int p1), .val (.int p2), .val (.int p3), .val (.int p4), .val (.int p5), .val (.int ki), .val (own_kind ki w0 w1 w2 w3 w4 w5), .val (.int lt), .val (.int t0), .val (.int t1), .val (.int o0), .val (.int o1), .val (.int lo), .val (.int (0 : Int32)), .val (.ref tx), .val (.ref ex), .val (.ref b33), .val (.int (own_want ki lt lo t0 t1 o0 o1)), .unset, .unset] [(.int (0 : Int32))])
        refine Go.of (fun _ => XS.ifNo H58.here hx rfl (hb hby at_181) rfl ((if0 _ _).trans (teq (by decide : (0 : Int32) = (0 : Int32))).2)) ?_
        show Go p e below _ T57 (mkF m 184 #[.val (.int p0), .val (.int p1), .val (.int p2), .val (.int p3), .val (.int p4), .val (.int p5), .val (.int ki), .val (own_kind ki w0 w1 w2 w3 w4 w5), .val (.int lt), .val (.int t0), .val (.int t1), .val (.int o0), .val (.int o1), .val (.int lo), .val (.int (0 : Int32)), .val (.ref tx), .val (.ref ex), .val (.ref b33), .val (.int (own_want ki lt lo t0 t1 o0 o1)), .unset, .unset] [])
        refine Go.of (fun _ => XS.iload H58.here hx rfl (hb hby at_184) rfl) ?_
        show Go p e below _ T57 (mkF m 186 #[.val (.int p0), .val (.int p1), .val (.int p2), .val (.int p3), .val (.int p4), .val (.int p5), .val (.int ki), .val (own_kind ki w0 w1 w2 w3 w4 w5), .val (.int lt), .val (.int t0), .val (.int t1), .val (.int o0), .val (.int o1), .val (.int lo), .val (.int (0 : Int32)), .val (.ref tx), .val (.ref ex), .val (.ref b33), .val (.int (own_want ki lt lo t0 t1 o0 o1)), .unset, .unset] [(.int lt)])
        refine Go.of (fun _ => XS.iload H58.here hx rfl (hb hby at_186) rfl) ?_
        show Go p e below _ T57 (mkF m 188 #[.val (.int p0), .val (.int p1), .val (.int p2), .val (.int p3), .val (.int p4), .val (.int p5), .val (.int ki), .val (own_kind ki w0 w1 w2 w3 w4 w5), .val (.int lt), .val (.int t0), .val (.int t1), .val (.int o0), .val (.int o1), .val (.int lo), .val (.int (0 : Int32)), .val (.ref tx), .val (.ref ex), .val (.ref b33), .val (.int (own_want ki lt lo t0 t1 o0 o1)), .unset, .unset] [(.int lo), (.int lt)])
        by_cases hc65 : lt = lo
        · skip
          refine Go.of (fun _ => XS.icmpNo H58.here hx rfl (hb hby at_188) rfl (teq hc65).2) ?_
          show Go p e below _ T57 (mkF m 191 #[.val (.int p0), .val (.int p1), .val (.int p2), .val (.int p3), .val (.int p4), .val (.int p5), .val (.int ki), .val (own_kind ki w0 w1 w2 w3 w4 w5), .val (.int lt), .val (.int t0), .val (.int t1), .val (.int o0), .val (.int o1), .val (.int lo), .val (.int (0 : Int32)), .val (.ref tx), .val (.ref ex), .val (.ref b33), .val (.int (own_want ki lt lo t0 t1 o0 o1)), .unset, .unset] [])
          refine Go.of (fun _ => XS.iload H58.here hx rfl (hb hby at_191) rfl) ?_
          show Go p e below _ T57 (mkF m 193 #[.val (.int p0), .val (.int p1), .val (.int p2), .val (.int p3), .val (.int p4), .val (.int p5), .val (.int ki), .val (own_kind ki w0 w1 w2 w3 w4 w5), .val (.int lt), .val (.int t0), .val (.int t1), .val (.int o0), .val (.int o1), .val (.int lo), .val (.int (0 : Int32)), .val (.ref tx), .val (.ref ex), .val (.ref b33), .val (.int (own_want ki lt lo t0 t1 o0 o1)), .unset, .unset] [(.int lt)])
          refine Go.of (fun _ => XS.iconst H58.here hx rfl (hb hby at_193)) ?_
          show Go p e below _ T57 (mkF m 194 #[.val (.int p0), .val (.int p1), .val (.int p2), .val (.int p3), .val (.int p4), .val (.int p5), .val (.int ki), .val (own_kind ki w0 w1 w2 w3 w4 w5), .val (.int lt), .val (.int t0), .val (.int t1), .val (.int o0), .val (.int o1), .val (.int lo), .val (.int (0 : Int32)), .val (.ref tx), .val (.ref ex), .val (.ref b33), .val (.int (own_want ki lt lo t0 t1 o0 o1)), .unset, .unset] [(.int (1 : Int32)), (.int lt)])
          by_cases hc66 : lt < (1 : Int32)
          · skip
            refine Go.of (fun _ => XS.icmpYes H58.here hx rfl (pc0 := 194) (pc' := 204) rfl (hb hby at_194) rfl (tlt hc66).1 (by decide) (by decide)) ?_
            show Go p e below _ T57 (mkF m 204 #[.val (.int p0), .val (.int p1), .val (.int p2), .val (.int p3), .val (.int p4), .val (.int p5), .val (.int ki), .val (own_kind ki w0 w1 w2 w3 w4 w5), .val (.int lt), .val (.int t0), .val (.int t1), .val (.int o0), .val (.int o1), .val (.int lo), .val (.int (0 : Int32)), .val (.ref tx), .val (.ref ex), .val (.ref b33), .val (.int (own_want ki lt lo t0 t1 o0 o1)), .unset, .unset] [])
            refine Go.of (fun _ => XS.iload H58.here hx rfl (hb hby at_204) rfl) ?_
            show Go p e below _ T57 (mkF m 206 #[.val (.int p0), .val (.int p1), .val (.int p2), .val (.int p3), .val (.int p4), .val (.int p5), .val (.int ki), .val (own_kind ki w0 w1 w2 w3 w4 w5), .val (.int lt), .val (.int t0), .val (.int t1), .val (.int o0), .val (.int o1), .val (.int lo), .val (.int (0 : Int32)), .val (.ref tx), .val (.ref ex), .val (.ref b33), .val (.int (own_want ki lt lo t0 t1 o0 o1)), .unset, .unset] [(.int lt)])
            refine Go.of (fun _ => XS.iconst H58.here hx rfl (hb hby at_206)) ?_
            show Go p e below _ T57 (mkF m 207 #[.val (.int p0), .val (.int p1), .val (.int p2), .val (.int p3), .val (.int p4), .val (.int p5), .val (.int ki), .val (own_kind ki w0 w1 w2 w3 w4 w5), .val (.int lt), .val (.int t0), .val (.int t1), .val (.int o0), .val (.int o1), .val (.int lo), .val (.int (0 : Int32)), .val (.ref tx), .val (.ref ex), .val (.ref b33), .val (.int (own_want ki lt lo t0 t1 o0 o1)), .unset, .unset] [(.int (2 : Int32)), (.int lt)])
            by_cases hc67 : lt < (2 : Int32)
            · skip
              refine Go.of (fun _ => XS.icmpYes H58.here hx rfl (pc0 := 207) (pc' := 217) rfl (hb hby at_207) rfl (tlt hc67).1 (by decide) (by decide)) ?_
              show Go p e below _ T57 (mkF m 217 #[.val (.int p0), .val (.int p1), .val (.int p2), .val (.int p3), .val (.int p4), .val (.int p5), .val (.int ki), .val (own_kind ki w0 w1 w2 w3 w4 w5), .val (.int lt), .val (.int t0), .val (.int t1), .val (.int o0), .val (.int o1), .val (.int lo), .val (.int (0 : Int32)), .val (.ref tx), .val (.ref ex), .val (.ref b33), .val (.int (own_want ki lt lo t0 t1 o0 o1)), .unset, .unset] [])
              refine Go.of (fun _ => XS.iconst H58.here hx rfl (hb hby at_217)) ?_
              show Go p e below _ T57 (mkF m 218 #[.val (.int p0), .val (.int p1), .val (.int p2), .val (.int p3), .val (.int p4), .val (.int p5), .val (.int ki), .val (own_kind ki w0 w1 w2 w3 w4 w5), .val (.int lt), .val (.int t0), .val (.int t1), .val (.int o0), .val (.int o1), .val (.int lo), .val (.int (0 : Int32)), .val (.ref tx), .val (.ref ex), .val (.ref b33), .val (.int (own_want ki lt lo t0 t1 o0 o1)), .unset, .unset] [(.int (1 : Int32))])
              refine Go.of (fun _ => XS.goto H58.here hx rfl (pc0 := 218) (pc' := 222) rfl (hb hby at_218) (by decide) (by decide)) ?_
              show Go p e below _ T57 (mkF m 222 #[.val (.int p0), .val (.int p1), .val (.int p2), .val (.int p3), .val (.int p4), .val (.int p5), .val (.int ki), .val (own_kind ki w0 w1 w2 w3 w4 w5), .val (.int lt), .val (.int t0), .val (.int t1), .val (.int o0), .val (.int o1), .val (.int lo), .val (.int (0 : Int32)), .val (.ref tx), .val (.ref ex), .val (.ref b33), .val (.int (own_want ki lt lo t0 t1 o0 o1)), .unset, .unset] [(.int (1 : Int32))])
              refine Go.of (fun _ => XS.istore H58.here hx rfl (hb hby at_222) rfl (l' := #[.val (.int p0), .val (.int p1), .val (.int p2), .val (.int p3), .val (.int p4), .val (.int p5), .val (.int ki), .val (own_kind ki w0 w1 w2 w3 w4 w5), .val (.int lt), .val (.int t0), .val (.int t1), .val (.int o0), .val (.int o1), .val (.int lo), .val (.int (0 : Int32)), .val (.ref tx), .val (.ref ex), .val (.ref b33), .val (.int (own_want ki lt lo t0 t1 o0 o1)), .val (.int (1 : Int32)), .unset]) rfl) ?_
              show Go p e below _ T57 (mkF m 224 #[.val (.int p0), .val (.int p1), .val (.int p2), .val (.int p3), .val (.int p4), .val (.int p5), .val (.int ki), .val (own_kind ki w0 w1 w2 w3 w4 w5), .val (.int lt), .val (.int t0), .val (.int t1), .val (.int o0), .val (.int o1), .val (.int lo), .val (.int (0 : Int32)), .val (.ref tx), .val (.ref ex), .val (.ref b33), .val (.int (own_want ki lt lo t0 t1 o0 o1)), .val (.int (1 : Int32)), .unset] [])
              refine Go.of (fun _ => XS.iload H58.here hx rfl (hb hby at_224) rfl) ?_
              show Go p e below _ T57 (mkF m 226 #[.val (.int p0), .val (.int p1), .val (.int p2), .val (.int p3), .val (.int p4), .val (.int p5), .val (.int ki), .val (own_kind ki w0 w1 w2 w3 w4 w5), .val (.int lt), .val (.int t0), .val (.int t1), .val (.int o0), .val (.int o1), .val (.int lo), .val (.int (0 : Int32)), .val (.ref tx), .val (.ref ex), .val (.ref b33), .val (.int (own_want ki lt lo t0 t1 o0 o1)), .val (.int (1 : Int32)), .unset] [(.int ki)])
              refine Go.of (fun _ => XS.iconst H58.here hx rfl (hb hby at_226)) ?_
              show Go p e below _ T57 (mkF m 227 #[.val (.int p0), .val (.int p1), .val (.int p2), .val (.int p3), .val (.int p4), .val (.int p5), .val (.int ki), .val (own_kind ki w0 w1 w2 w3 w4 w5), .val (.int lt), .val (.int t0), .val (.int t1), .val (.int o0), .val (.int o1), .val (.int lo), .val (.int (0 : Int32)), .val (.ref tx), .val (.ref ex), .val (.ref b33), .val (.int (own_want ki lt lo t0 t1 o0 o1)), .val (.int (1 : Int32)), .unset] [(.int (1 : Int32)), (.int ki)])
              by_cases hc68 : ki = (1 : Int32)
              · skip
                refine Go.of (fun _ => XS.icmpYes H58.here hx rfl (pc0 := 227) (pc' := 236) rfl (hb hby at_227) rfl (teq hc68).1 (by decide) (by decide)) ?_
                show Go p e below _ T57 (mkF m 236 #[.val (.int p0), .val (.int p1), .val (.int p2), .val (.int p3), .val (.int p4), .val (.int p5), .val (.int ki), .val (own_kind ki w0 w1 w2 w3 w4 w5), .val (.int lt), .val (.int t0), .val (.int t1), .val (.int o0), .val (.int o1), .val (.int lo), .val (.int (0 : Int32)), .val (.ref tx), .val (.ref ex), .val (.ref b33), .val (.int (own_want ki lt lo t0 t1 o0 o1)), .val (.int (1 : Int32)), .unset] [])
                refine Go.of (fun _ => XS.iload H58.here hx rfl (hb hby at_236) rfl) ?_
                show Go p e below _ T57 (mkF m 238 #[.val (.int p0), .val (.int p1), .val (.int p2), .val (.int p3), .val (.int p4), .val (.int p5), .val (.int ki), .val (own_kind ki w0 w1 w2 w3 w4 w5), .val (.int lt), .val (.int t0), .val (.int t1), .val (.int o0), .val (.int o1), .val (.int lo), .val (.int (0 : Int32)), .val (.ref tx), .val (.ref ex), .val (.ref b33), .val (.int (own_want ki lt lo t0 t1 o0 o1)), .val (.int (1 : Int32)), .unset] [(.int (1 : Int32))])
                refine Go.of (fun _ => XS.ifNo H58.here hx rfl (hb hby at_238) rfl ((if0 _ _).trans (feq (by decide : ¬ ((1 : Int32) = (0 : Int32)))).1)) ?_
                show Go p e below _ T57 (mkF m 241 #[.val (.int p0), .val (.int p1), .val (.int p2), .val (.int p3), .val (.int p4), .val (.int p5), .val (.int ki), .val (own_kind ki w0 w1 w2 w3 w4 w5), .val (.int lt), .val (.int t0), .val (.int t1), .val (.int o0), .val (.int o1), .val (.int lo), .val (.int (0 : Int32)), .val (.ref tx), .val (.ref ex), .val (.ref b33), .val (.int (own_want ki lt lo t0 t1 o0 o1)), .val (.int (1 : Int32)), .unset] [])
                refine Go.of (fun _ => XS.iconst H58.here hx rfl (hb hby at_241)) ?_
                show Go p e below _ T57 (mkF m 242 #[.val (.int p0), .val (.int p1), .val (.int p2), .val (.int p3), .val (.int p4), .val (.int p5), .val (.int ki), .val (own_kind ki w0 w1 w2 w3 w4 w5), .val (.int lt), .val (.int t0), .val (.int t1), .val (.int o0), .val (.int o1), .val (.int lo), .val (.int (0 : Int32)), .val (.ref tx), .val (.ref ex), .val (.ref b33), .val (.int (own_want ki lt lo t0 t1 o0 o1)), .val (.int (1 : Int32)), .unset] [(.int (1 : Int32))])
                refine Go.of (fun _ => XS.goto H58.here hx rfl (pc0 := 242) (pc' := 246) rfl (hb hby at_242) (by decide) (by decide)) ?_
                show Go p e below _ T57 (mkF m 246 #[.val (.int p0), .val (.int p1), .val (.int p2), .val (.int p3), .val (.int p4), .val (.int p5), .val (.int ki), .val (own_kind ki w0 w1 w2 w3 w4 w5), .val (.int lt), .val (.int t0), .val (.int t1), .val (.int o0), .val (.int o1), .val (.int lo), .val (.int (0 : Int32)), .val (.ref tx), .val (.ref ex), .val (.ref b33), .val (.int (own_want ki lt lo t0 t1 o0 o1)), .val (.int (1 : Int32)), .unset] [(.int (1 : Int32))])
                refine Go.of (fun _ => XS.istore H58.here hx rfl (hb hby at_246) rfl (l' := #[.val (.int p0), .val (.int p1), .val (.int p2), .val (.int p3), .val (.int p4), .val (.int p5), .val (.int ki), .val (own_kind ki w0 w1 w2 w3 w4 w5), .val (.int lt), .val (.int t0), .val (.int t1), .val (.int o0), .val (.int o1), .val (.int lo), .val (.int (0 : Int32)), .val (.ref tx), .val (.ref ex), .val (.ref b33), .val (.int (own_want ki lt lo t0 t1 o0 o1)), .val (.int (1 : Int32)), .val (.int (1 : Int32))]) rfl) ?_
                show Go p e below _ T57 (mkF m 248 #[.val (.int p0), .val (.int p1), .val (.int p2), .val (.int p3), .val (.int p4), .val (.int p5), .val (.int ki), .val (own_kind ki w0 w1 w2 w3 w4 w5), .val (.int lt), .val (.int t0), .val (.int t1), .val (.int o0), .val (.int o1), .val (.int lo), .val (.int (0 : Int32)), .val (.ref tx), .val (.ref ex), .val (.ref b33), .val (.int (own_want ki lt lo t0 t1 o0 o1)), .val (.int (1 : Int32)), .val (.int (1 : Int32))] [])
                refine Go.of (fun _ => XS.iload H58.here hx rfl (hb hby at_248) rfl) ?_
                show Go p e below _ T57 (mkF m 250 #[.val (.int p0), .val (.int p1), .val (.int p2), .val (.int p3), .val (.int p4), .val (.int p5), .val (.int ki), .val (own_kind ki w0 w1 w2 w3 w4 w5), .val (.int lt), .val (.int t0), .val (.int t1), .val (.int o0), .val (.int o1), .val (.int lo), .val (.int (0 : Int32)), .val (.ref tx), .val (.ref ex), .val (.ref b33), .val (.int (own_want ki lt lo t0 t1 o0 o1)), .val (.int (1 : Int32)), .val (.int (1 : Int32))] [(.int (own_want ki lt lo t0 t1 o0 o1))])
                refine Go.of (fun _ => XS.iload H58.here hx rfl (hb hby at_250) rfl) ?_
                show Go p e below _ T57 (mkF m 252 #[.val (.int p0), .val (.int p1), .val (.int p2), .val (.int p3), .val (.int p4), .val (.int p5), .val (.int ki), .val (own_kind ki w0 w1 w2 w3 w4 w5), .val (.int lt), .val (.int t0), .val (.int t1), .val (.int o0), .val (.int o1), .val (.int lo), .val (.int (0 : Int32)), .val (.ref tx), .val (.ref ex), .val (.ref b33), .val (.int (own_want ki lt lo t0 t1 o0 o1)), .val (.int (1 : Int32)), .val (.int (1 : Int32))] [(.int (1 : Int32)), (.int (own_want ki lt lo t0 t1 o0 o1))])
                rw [show (own_want ki lt lo t0 t1 o0 o1) = (1 : Int32) from if_pos ⟨(Or.inl hc68), ⟨hc65, ⟨(Or.inl hc66), (Or.inl hc67)⟩⟩⟩]
                show Go p e below _ T57 (mkF m 252 #[.val (.int p0), .val (.int p1), .val (.int p2), .val (.int p3), .val (.int p4), .val (.int p5), .val (.int ki), .val (own_kind ki w0 w1 w2 w3 w4 w5), .val (.int lt), .val (.int t0), .val (.int t1), .val (.int o0), .val (.int o1), .val (.int lo), .val (.int (0 : Int32)), .val (.ref tx), .val (.ref ex), .val (.ref b33), .val (.int (1 : Int32)), .val (.int (1 : Int32)), .val (.int (1 : Int32))] [(.int (1 : Int32)), (.int (1 : Int32))])
                refine Go.of (fun _ => XS.icmpNo H58.here hx rfl (hb hby at_252) rfl (teq (by decide : (1 : Int32) = (1 : Int32))).2) ?_
                show Go p e below _ T57 (mkF m 255 #[.val (.int p0), .val (.int p1), .val (.int p2), .val (.int p3), .val (.int p4), .val (.int p5), .val (.int ki), .val (own_kind ki w0 w1 w2 w3 w4 w5), .val (.int lt), .val (.int t0), .val (.int t1), .val (.int o0), .val (.int o1), .val (.int lo), .val (.int (0 : Int32)), .val (.ref tx), .val (.ref ex), .val (.ref b33), .val (.int (1 : Int32)), .val (.int (1 : Int32)), .val (.int (1 : Int32))] [])
                refine Go.of (fun _ => XS.iconst H58.here hx rfl (hb hby at_255)) ?_
                show Go p e below _ T57 (mkF m 256 #[.val (.int p0), .val (.int p1), .val (.int p2), .val (.int p3), .val (.int p4), .val (.int p5), .val (.int ki), .val (own_kind ki w0 w1 w2 w3 w4 w5), .val (.int lt), .val (.int t0), .val (.int t1), .val (.int o0), .val (.int o1), .val (.int lo), .val (.int (0 : Int32)), .val (.ref tx), .val (.ref ex), .val (.ref b33), .val (.int (1 : Int32)), .val (.int (1 : Int32)), .val (.int (1 : Int32))] [(.int (1 : Int32))])
                refine Go.of (fun _ => XS.goto H58.here hx rfl (pc0 := 256) (pc' := 260) rfl (hb hby at_256) (by decide) (by decide)) ?_
                show Go p e below _ T57 (mkF m 260 #[.val (.int p0), .val (.int p1), .val (.int p2), .val (.int p3), .val (.int p4), .val (.int p5), .val (.int ki), .val (own_kind ki w0 w1 w2 w3 w4 w5), .val (.int lt), .val (.int t0), .val (.int t1), .val (.int o0), .val (.int o1), .val (.int lo), .val (.int (0 : Int32)), .val (.ref tx), .val (.ref ex), .val (.ref b33), .val (.int (1 : Int32)), .val (.int (1 : Int32)), .val (.int (1 : Int32))] [(.int (1 : Int32))])
                exact own_retN H58 hx hlk (t := .boolean) hret (by simp) (hb hby at_260) rfl (by decide) (by decide)
              · skip
                refine Go.of (fun _ => XS.icmpNo H58.here hx rfl (hb hby at_227) rfl (feq hc68).1) ?_
                show Go p e below _ T57 (mkF m 230 #[.val (.int p0), .val (.int p1), .val (.int p2), .val (.int p3), .val (.int p4), .val (.int p5), .val (.int ki), .val (own_kind ki w0 w1 w2 w3 w4 w5), .val (.int lt), .val (.int t0), .val (.int t1), .val (.int o0), .val (.int o1), .val (.int lo), .val (.int (0 : Int32)), .val (.ref tx), .val (.ref ex), .val (.ref b33), .val (.int (own_want ki lt lo t0 t1 o0 o1)), .val (.int (1 : Int32)), .unset] [])
                refine Go.of (fun _ => XS.iload H58.here hx rfl (hb hby at_230) rfl) ?_
                show Go p e below _ T57 (mkF m 232 #[.val (.int p0), .val (.int p1), .val (.int p2), .val (.int p3), .val (.int p4), .val (.int p5), .val (.int ki), .val (own_kind ki w0 w1 w2 w3 w4 w5), .val (.int lt), .val (.int t0), .val (.int t1), .val (.int o0), .val (.int o1), .val (.int lo), .val (.int (0 : Int32)), .val (.ref tx), .val (.ref ex), .val (.ref b33), .val (.int (own_want ki lt lo t0 t1 o0 o1)), .val (.int (1 : Int32)), .unset] [(.int ki)])
                refine Go.of (fun _ => XS.iconst H58.here hx rfl (hb hby at_232)) ?_
                show Go p e below _ T57 (mkF m 233 #[.val (.int p0), .val (.int p1), .val (.int p2), .val (.int p3), .val (.int p4), .val (.int p5), .val (.int ki), .val (own_kind ki w0 w1 w2 w3 w4 w5), .val (.int lt), .val (.int t0), .val (.int t1), .val (.int o0), .val (.int o1), .val (.int lo), .val (.int (0 : Int32)), .val (.ref tx), .val (.ref ex), .val (.ref b33), .val (.int (own_want ki lt lo t0 t1 o0 o1)), .val (.int (1 : Int32)), .unset] [(.int (4 : Int32)), (.int ki)])
                by_cases hc69 : ki = (4 : Int32)
                · skip
                  refine Go.of (fun _ => XS.icmpNo H58.here hx rfl (hb hby at_233) rfl (teq hc69).2) ?_
                  show Go p e below _ T57 (mkF m 236 #[.val (.int p0), .val (.int p1), .val (.int p2), .val (.int p3), .val (.int p4), .val (.int p5), .val (.int ki), .val (own_kind ki w0 w1 w2 w3 w4 w5), .val (.int lt), .val (.int t0), .val (.int t1), .val (.int o0), .val (.int o1), .val (.int lo), .val (.int (0 : Int32)), .val (.ref tx), .val (.ref ex), .val (.ref b33), .val (.int (own_want ki lt lo t0 t1 o0 o1)), .val (.int (1 : Int32)), .unset] [])
                  refine Go.of (fun _ => XS.iload H58.here hx rfl (hb hby at_236) rfl) ?_
                  show Go p e below _ T57 (mkF m 238 #[.val (.int p0), .val (.int p1), .val (.int p2), .val (.int p3), .val (.int p4), .val (.int p5), .val (.int ki), .val (own_kind ki w0 w1 w2 w3 w4 w5), .val (.int lt), .val (.int t0), .val (.int t1), .val (.int o0), .val (.int o1), .val (.int lo), .val (.int (0 : Int32)), .val (.ref tx), .val (.ref ex), .val (.ref b33), .val (.int (own_want ki lt lo t0 t1 o0 o1)), .val (.int (1 : Int32)), .unset] [(.int (1 : Int32))])
                  refine Go.of (fun _ => XS.ifNo H58.here hx rfl (hb hby at_238) rfl ((if0 _ _).trans (feq (by decide : ¬ ((1 : Int32) = (0 : Int32)))).1)) ?_
                  show Go p e below _ T57 (mkF m 241 #[.val (.int p0), .val (.int p1), .val (.int p2), .val (.int p3), .val (.int p4), .val (.int p5), .val (.int ki), .val (own_kind ki w0 w1 w2 w3 w4 w5), .val (.int lt), .val (.int t0), .val (.int t1), .val (.int o0), .val (.int o1), .val (.int lo), .val (.int (0 : Int32)), .val (.ref tx), .val (.ref ex), .val (.ref b33), .val (.int (own_want ki lt lo t0 t1 o0 o1)), .val (.int (1 : Int32)), .unset] [])
                  refine Go.of (fun _ => XS.iconst H58.here hx rfl (hb hby at_241)) ?_
                  show Go p e below _ T57 (mkF m 242 #[.val (.int p0), .val (.int p1), .val (.int p2), .val (.int p3), .val (.int p4), .val (.int p5), .val (.int ki), .val (own_kind ki w0 w1 w2 w3 w4 w5), .val (.int lt), .val (.int t0), .val (.int t1), .val (.int o0), .val (.int o1), .val (.int lo), .val (.int (0 : Int32)), .val (.ref tx), .val (.ref ex), .val (.ref b33), .val (.int (own_want ki lt lo t0 t1 o0 o1)), .val (.int (1 : Int32)), .unset] [(.int (1 : Int32))])
                  refine Go.of (fun _ => XS.goto H58.here hx rfl (pc0 := 242) (pc' := 246) rfl (hb hby at_242) (by decide) (by decide)) ?_
                  show Go p e below _ T57 (mkF m 246 #[.val (.int p0), .val (.int p1), .val (.int p2), .val (.int p3), .val (.int p4), .val (.int p5), .val (.int ki), .val (own_kind ki w0 w1 w2 w3 w4 w5), .val (.int lt), .val (.int t0), .val (.int t1), .val (.int o0), .val (.int o1), .val (.int lo), .val (.int (0 : Int32)), .val (.ref tx), .val (.ref ex), .val (.ref b33), .val (.int (own_want ki lt lo t0 t1 o0 o1)), .val (.int (1 : Int32)), .unset] [(.int (1 : Int32))])
                  refine Go.of (fun _ => XS.istore H58.here hx rfl (hb hby at_246) rfl (l' := #[.val (.int p0), .val (.int p1), .val (.int p2), .val (.int p3), .val (.int p4), .val (.int p5), .val (.int ki), .val (own_kind ki w0 w1 w2 w3 w4 w5), .val (.int lt), .val (.int t0), .val (.int t1), .val (.int o0), .val (.int o1), .val (.int lo), .val (.int (0 : Int32)), .val (.ref tx), .val (.ref ex), .val (.ref b33), .val (.int (own_want ki lt lo t0 t1 o0 o1)), .val (.int (1 : Int32)), .val (.int (1 : Int32))]) rfl) ?_
                  show Go p e below _ T57 (mkF m 248 #[.val (.int p0), .val (.int p1), .val (.int p2), .val (.int p3), .val (.int p4), .val (.int p5), .val (.int ki), .val (own_kind ki w0 w1 w2 w3 w4 w5), .val (.int lt), .val (.int t0), .val (.int t1), .val (.int o0), .val (.int o1), .val (.int lo), .val (.int (0 : Int32)), .val (.ref tx), .val (.ref ex), .val (.ref b33), .val (.int (own_want ki lt lo t0 t1 o0 o1)), .val (.int (1 : Int32)), .val (.int (1 : Int32))] [])
                  refine Go.of (fun _ => XS.iload H58.here hx rfl (hb hby at_248) rfl) ?_
                  show Go p e below _ T57 (mkF m 250 #[.val (.int p0), .val (.int p1), .val (.int p2), .val (.int p3), .val (.int p4), .val (.int p5), .val (.int ki), .val (own_kind ki w0 w1 w2 w3 w4 w5), .val (.int lt), .val (.int t0), .val (.int t1), .val (.int o0), .val (.int o1), .val (.int lo), .val (.int (0 : Int32)), .val (.ref tx), .val (.ref ex), .val (.ref b33), .val (.int (own_want ki lt lo t0 t1 o0 o1)), .val (.int (1 : Int32)), .val (.int (1 : Int32))] [(.int (own_want ki lt lo t0 t1 o0 o1))])
                  refine Go.of (fun _ => XS.iload H58.here hx rfl (hb hby at_250) rfl) ?_
                  show Go p e below _ T57 (mkF m 252 #[.val (.int p0), .val (.int p1), .val (.int p2), .val (.int p3), .val (.int p4), .val (.int p5), .val (.int ki), .val (own_kind ki w0 w1 w2 w3 w4 w5), .val (.int lt), .val (.int t0), .val (.int t1), .val (.int o0), .val (.int o1), .val (.int lo), .val (.int (0 : Int32)), .val (.ref tx), .val (.ref ex), .val (.ref b33), .val (.int (own_want ki lt lo t0 t1 o0 o1)), .val (.int (1 : Int32)), .val (.int (1 : Int32))] [(.int (1 : Int32)), (.int (own_want ki lt lo t0 t1 o0 o1))])
                  rw [show (own_want ki lt lo t0 t1 o0 o1) = (1 : Int32) from if_pos ⟨(Or.inr hc69), ⟨hc65, ⟨(Or.inl hc66), (Or.inl hc67)⟩⟩⟩]
                  show Go p e below _ T57 (mkF m 252 #[.val (.int p0), .val (.int p1), .val (.int p2), .val (.int p3), .val (.int p4), .val (.int p5), .val (.int ki), .val (own_kind ki w0 w1 w2 w3 w4 w5), .val (.int lt), .val (.int t0), .val (.int t1), .val (.int o0), .val (.int o1), .val (.int lo), .val (.int (0 : Int32)), .val (.ref tx), .val (.ref ex), .val (.ref b33), .val (.int (1 : Int32)), .val (.int (1 : Int32)), .val (.int (1 : Int32))] [(.int (1 : Int32)), (.int (1 : Int32))])
                  refine Go.of (fun _ => XS.icmpNo H58.here hx rfl (hb hby at_252) rfl (teq (by decide : (1 : Int32) = (1 : Int32))).2) ?_
                  show Go p e below _ T57 (mkF m 255 #[.val (.int p0), .val (.int p1), .val (.int p2), .val (.int p3), .val (.int p4), .val (.int p5), .val (.int ki), .val (own_kind ki w0 w1 w2 w3 w4 w5), .val (.int lt), .val (.int t0), .val (.int t1), .val (.int o0), .val (.int o1), .val (.int lo), .val (.int (0 : Int32)), .val (.ref tx), .val (.ref ex), .val (.ref b33), .val (.int (1 : Int32)), .val (.int (1 : Int32)), .val (.int (1 : Int32))] [])
                  refine Go.of (fun _ => XS.iconst H58.here hx rfl (hb hby at_255)) ?_
                  show Go p e below _ T57 (mkF m 256 #[.val (.int p0), .val (.int p1), .val (.int p2), .val (.int p3), .val (.int p4), .val (.int p5), .val (.int ki), .val (own_kind ki w0 w1 w2 w3 w4 w5), .val (.int lt), .val (.int t0), .val (.int t1), .val (.int o0), .val (.int o1), .val (.int lo), .val (.int (0 : Int32)), .val (.ref tx), .val (.ref ex), .val (.ref b33), .val (.int (1 : Int32)), .val (.int (1 : Int32)), .val (.int (1 : Int32))] [(.int (1 : Int32))])
                  refine Go.of (fun _ => XS.goto H58.here hx rfl (pc0 := 256) (pc' := 260) rfl (hb hby at_256) (by decide) (by decide)) ?_
                  show Go p e below _ T57 (mkF m 260 #[.val (.int p0), .val (.int p1), .val (.int p2), .val (.int p3), .val (.int p4), .val (.int p5), .val (.int ki), .val (own_kind ki w0 w1 w2 w3 w4 w5), .val (.int lt), .val (.int t0), .val (.int t1), .val (.int o0), .val (.int o1), .val (.int lo), .val (.int (0 : Int32)), .val (.ref tx), .val (.ref ex), .val (.ref b33), .val (.int (1 : Int32)), .val (.int (1 : Int32)), .val (.int (1 : Int32))] [(.int (1 : Int32))])
                  exact own_retN H58 hx hlk (t := .boolean) hret (by simp) (hb hby at_260) rfl (by decide) (by decide)
                · skip
                  refine Go.of (fun _ => XS.icmpYes H58.here hx rfl (pc0 := 233) (pc' := 245) rfl (hb hby at_233) rfl (feq hc69).2 (by decide) (by decide)) ?_
                  show Go p e below _ T57 (mkF m 245 #[.val (.int p0), .val (.int p1), .val (.int p2), .val (.int p3), .val (.int p4), .val (.int p5), .val (.int ki), .val (own_kind ki w0 w1 w2 w3 w4 w5), .val (.int lt), .val (.int t0), .val (.int t1), .val (.int o0), .val (.int o1), .val (.int lo), .val (.int (0 : Int32)), .val (.ref tx), .val (.ref ex), .val (.ref b33), .val (.int (own_want ki lt lo t0 t1 o0 o1)), .val (.int (1 : Int32)), .unset] [])
                  refine Go.of (fun _ => XS.iconst H58.here hx rfl (hb hby at_245)) ?_
                  show Go p e below _ T57 (mkF m 246 #[.val (.int p0), .val (.int p1), .val (.int p2), .val (.int p3), .val (.int p4), .val (.int p5), .val (.int ki), .val (own_kind ki w0 w1 w2 w3 w4 w5), .val (.int lt), .val (.int t0), .val (.int t1), .val (.int o0), .val (.int o1), .val (.int lo), .val (.int (0 : Int32)), .val (.ref tx), .val (.ref ex), .val (.ref b33), .val (.int (own_want ki lt lo t0 t1 o0 o1)), .val (.int (1 : Int32)), .unset] [(.int (0 : Int32))])
                  refine Go.of (fun _ => XS.istore H58.here hx rfl (hb hby at_246) rfl (l' := #[.val (.int p0), .val (.int p1), .val (.int p2), .val (.int p3), .val (.int p4), .val (.int p5), .val (.int ki), .val (own_kind ki w0 w1 w2 w3 w4 w5), .val (.int lt), .val (.int t0), .val (.int t1), .val (.int o0), .val (.int o1), .val (.int lo), .val (.int (0 : Int32)), .val (.ref tx), .val (.ref ex), .val (.ref b33), .val (.int (own_want ki lt lo t0 t1 o0 o1)), .val (.int (1 : Int32)), .val (.int (0 : Int32))]) rfl) ?_
                  show Go p e below _ T57 (mkF m 248 #[.val (.int p0), .val (.int p1), .val (.int p2), .val (.int p3), .val (.int p4), .val (.int p5), .val (.int ki), .val (own_kind ki w0 w1 w2 w3 w4 w5), .val (.int lt), .val (.int t0), .val (.int t1), .val (.int o0), .val (.int o1), .val (.int lo), .val (.int (0 : Int32)), .val (.ref tx), .val (.ref ex), .val (.ref b33), .val (.int (own_want ki lt lo t0 t1 o0 o1)), .val (.int (1 : Int32)), .val (.int (0 : Int32))] [])
                  refine Go.of (fun _ => XS.iload H58.here hx rfl (hb hby at_248) rfl) ?_
                  show Go p e below _ T57 (mkF m 250 #[.val (.int p0), .val (.int p1), .val (.int p2), .val (.int p3), .val (.int p4), .val (.int p5), .val (.int ki), .val (own_kind ki w0 w1 w2 w3 w4 w5), .val (.int lt), .val (.int t0), .val (.int t1), .val (.int o0), .val (.int o1), .val (.int lo), .val (.int (0 : Int32)), .val (.ref tx), .val (.ref ex), .val (.ref b33), .val (.int (own_want ki lt lo t0 t1 o0 o1)), .val (.int (1 : Int32)), .val (.int (0 : Int32))] [(.int (own_want ki lt lo t0 t1 o0 o1))])
                  refine Go.of (fun _ => XS.iload H58.here hx rfl (hb hby at_250) rfl) ?_
                  show Go p e below _ T57 (mkF m 252 #[.val (.int p0), .val (.int p1), .val (.int p2), .val (.int p3), .val (.int p4), .val (.int p5), .val (.int ki), .val (own_kind ki w0 w1 w2 w3 w4 w5), .val (.int lt), .val (.int t0), .val (.int t1), .val (.int o0), .val (.int o1), .val (.int lo), .val (.int (0 : Int32)), .val (.ref tx), .val (.ref ex), .val (.ref b33), .val (.int (own_want ki lt lo t0 t1 o0 o1)), .val (.int (1 : Int32)), .val (.int (0 : Int32))] [(.int (0 : Int32)), (.int (own_want ki lt lo t0 t1 o0 o1))])
                  rw [show (own_want ki lt lo t0 t1 o0 o1) = (0 : Int32) from if_neg (fun q => (fun q => q.elim hc68 hc69) q.1)]
                  show Go p e below _ T57 (mkF m 252 #[.val (.int p0), .val (.int p1), .val (.int p2), .val (.int p3), .val (.int p4), .val (.int p5), .val (.int ki), .val (own_kind ki w0 w1 w2 w3 w4 w5), .val (.int lt), .val (.int t0), .val (.int t1), .val (.int o0), .val (.int o1), .val (.int lo), .val (.int (0 : Int32)), .val (.ref tx), .val (.ref ex), .val (.ref b33), .val (.int (0 : Int32)), .val (.int (1 : Int32)), .val (.int (0 : Int32))] [(.int (0 : Int32)), (.int (0 : Int32))])
                  refine Go.of (fun _ => XS.icmpNo H58.here hx rfl (hb hby at_252) rfl (teq (by decide : (0 : Int32) = (0 : Int32))).2) ?_
                  show Go p e below _ T57 (mkF m 255 #[.val (.int p0), .val (.int p1), .val (.int p2), .val (.int p3), .val (.int p4), .val (.int p5), .val (.int ki), .val (own_kind ki w0 w1 w2 w3 w4 w5), .val (.int lt), .val (.int t0), .val (.int t1), .val (.int o0), .val (.int o1), .val (.int lo), .val (.int (0 : Int32)), .val (.ref tx), .val (.ref ex), .val (.ref b33), .val (.int (0 : Int32)), .val (.int (1 : Int32)), .val (.int (0 : Int32))] [])
                  refine Go.of (fun _ => XS.iconst H58.here hx rfl (hb hby at_255)) ?_
                  show Go p e below _ T57 (mkF m 256 #[.val (.int p0), .val (.int p1), .val (.int p2), .val (.int p3), .val (.int p4), .val (.int p5), .val (.int ki), .val (own_kind ki w0 w1 w2 w3 w4 w5), .val (.int lt), .val (.int t0), .val (.int t1), .val (.int o0), .val (.int o1), .val (.int lo), .val (.int (0 : Int32)), .val (.ref tx), .val (.ref ex), .val (.ref b33), .val (.int (0 : Int32)), .val (.int (1 : Int32)), .val (.int (0 : Int32))] [(.int (1 : Int32))])
                  refine Go.of (fun _ => XS.goto H58.here hx rfl (pc0 := 256) (pc' := 260) rfl (hb hby at_256) (by decide) (by decide)) ?_
                  show Go p e below _ T57 (mkF m 260 #[.val (.int p0), .val (.int p1), .val (.int p2), .val (.int p3), .val (.int p4), .val (.int p5), .val (.int ki), .val (own_kind ki w0 w1 w2 w3 w4 w5), .val (.int lt), .val (.int t0), .val (.int t1), .val (.int o0), .val (.int o1), .val (.int lo), .val (.int (0 : Int32)), .val (.ref tx), .val (.ref ex), .val (.ref b33), .val (.int (0 : Int32)), .val (.int (1 : Int32)), .val (.int (0 : Int32))] [(.int (1 : Int32))])
                  exact own_retN H58 hx hlk (t := .boolean) hret (by simp) (hb hby at_260) rfl (by decide) (by decide)
            · skip
              refine Go.of (fun _ => XS.icmpNo H58.here hx rfl (hb hby at_207) rfl (flt hc67).1) ?_
              show Go p e below _ T57 (mkF m 210 #[.val (.int p0), .val (.int p1), .val (.int p2), .val (.int p3), .val (.int p4), .val (.int p5), .val (.int ki), .val (own_kind ki w0 w1 w2 w3 w4 w5), .val (.int lt), .val (.int t0), .val (.int t1), .val (.int o0), .val (.int o1), .val (.int lo), .val (.int (0 : Int32)), .val (.ref tx), .val (.ref ex), .val (.ref b33), .val (.int (own_want ki lt lo t0 t1 o0 o1)), .unset, .unset] [])
              refine Go.of (fun _ => XS.iload H58.here hx rfl (hb hby at_210) rfl) ?_
              show Go p e below _ T57 (mkF m 212 #[.val (.int p0), .val (.int p1), .val (.int p2), .val (.int p3), .val (.int p4), .val (.int p5), .val (.int ki), .val (own_kind ki w0 w1 w2 w3 w4 w5), .val (.int lt), .val (.int t0), .val (.int t1), .val (.int o0), .val (.int o1), .val (.int lo), .val (.int (0 : Int32)), .val (.ref tx), .val (.ref ex), .val (.ref b33), .val (.int (own_want ki lt lo t0 t1 o0 o1)), .unset, .unset] [(.int t1)])
              refine Go.of (fun _ => XS.iload H58.here hx rfl (hb hby at_212) rfl) ?_
              show Go p e below _ T57 (mkF m 214 #[.val (.int p0), .val (.int p1), .val (.int p2), .val (.int p3), .val (.int p4), .val (.int p5), .val (.int ki), .val (own_kind ki w0 w1 w2 w3 w4 w5), .val (.int lt), .val (.int t0), .val (.int t1), .val (.int o0), .val (.int o1), .val (.int lo), .val (.int (0 : Int32)), .val (.ref tx), .val (.ref ex), .val (.ref b33), .val (.int (own_want ki lt lo t0 t1 o0 o1)), .unset, .unset] [(.int o1), (.int t1)])
              by_cases hc70 : t1 = o1
              · skip
                refine Go.of (fun _ => XS.icmpNo H58.here hx rfl (hb hby at_214) rfl (teq hc70).2) ?_
                show Go p e below _ T57 (mkF m 217 #[.val (.int p0), .val (.int p1), .val (.int p2), .val (.int p3), .val (.int p4), .val (.int p5), .val (.int ki), .val (own_kind ki w0 w1 w2 w3 w4 w5), .val (.int lt), .val (.int t0), .val (.int t1), .val (.int o0), .val (.int o1), .val (.int lo), .val (.int (0 : Int32)), .val (.ref tx), .val (.ref ex), .val (.ref b33), .val (.int (own_want ki lt lo t0 t1 o0 o1)), .unset, .unset] [])
                refine Go.of (fun _ => XS.iconst H58.here hx rfl (hb hby at_217)) ?_
                show Go p e below _ T57 (mkF m 218 #[.val (.int p0), .val (.int p1), .val (.int p2), .val (.int p3), .val (.int p4), .val (.int p5), .val (.int ki), .val (own_kind ki w0 w1 w2 w3 w4 w5), .val (.int lt), .val (.int t0), .val (.int t1), .val (.int o0), .val (.int o1), .val (.int lo), .val (.int (0 : Int32)), .val (.ref tx), .val (.ref ex), .val (.ref b33), .val (.int (own_want ki lt lo t0 t1 o0 o1)), .unset, .unset] [(.int (1 : Int32))])
                refine Go.of (fun _ => XS.goto H58.here hx rfl (pc0 := 218) (pc' := 222) rfl (hb hby at_218) (by decide) (by decide)) ?_
                show Go p e below _ T57 (mkF m 222 #[.val (.int p0), .val (.int p1), .val (.int p2), .val (.int p3), .val (.int p4), .val (.int p5), .val (.int ki), .val (own_kind ki w0 w1 w2 w3 w4 w5), .val (.int lt), .val (.int t0), .val (.int t1), .val (.int o0), .val (.int o1), .val (.int lo), .val (.int (0 : Int32)), .val (.ref tx), .val (.ref ex), .val (.ref b33), .val (.int (own_want ki lt lo t0 t1 o0 o1)), .unset, .unset] [(.int (1 : Int32))])
                refine Go.of (fun _ => XS.istore H58.here hx rfl (hb hby at_222) rfl (l' := #[.val (.int p0), .val (.int p1), .val (.int p2), .val (.int p3), .val (.int p4), .val (.int p5), .val (.int ki), .val (own_kind ki w0 w1 w2 w3 w4 w5), .val (.int lt), .val (.int t0), .val (.int t1), .val (.int o0), .val (.int o1), .val (.int lo), .val (.int (0 : Int32)), .val (.ref tx), .val (.ref ex), .val (.ref b33), .val (.int (own_want ki lt lo t0 t1 o0 o1)), .val (.int (1 : Int32)), .unset]) rfl) ?_
                show Go p e below _ T57 (mkF m 224 #[.val (.int p0), .val (.int p1), .val (.int p2), .val (.int p3), .val (.int p4), .val (.int p5), .val (.int ki), .val (own_kind ki w0 w1 w2 w3 w4 w5), .val (.int lt), .val (.int t0), .val (.int t1), .val (.int o0), .val (.int o1), .val (.int lo), .val (.int (0 : Int32)), .val (.ref tx), .val (.ref ex), .val (.ref b33), .val (.int (own_want ki lt lo t0 t1 o0 o1)), .val (.int (1 : Int32)), .unset] [])
                refine Go.of (fun _ => XS.iload H58.here hx rfl (hb hby at_224) rfl) ?_
                show Go p e below _ T57 (mkF m 226 #[.val (.int p0), .val (.int p1), .val (.int p2), .val (.int p3), .val (.int p4), .val (.int p5), .val (.int ki), .val (own_kind ki w0 w1 w2 w3 w4 w5), .val (.int lt), .val (.int t0), .val (.int t1), .val (.int o0), .val (.int o1), .val (.int lo), .val (.int (0 : Int32)), .val (.ref tx), .val (.ref ex), .val (.ref b33), .val (.int (own_want ki lt lo t0 t1 o0 o1)), .val (.int (1 : Int32)), .unset] [(.int ki)])
                refine Go.of (fun _ => XS.iconst H58.here hx rfl (hb hby at_226)) ?_
                show Go p e below _ T57 (mkF m 227 #[.val (.int p0), .val (.int p1), .val (.int p2), .val (.int p3), .val (.int p4), .val (.int p5), .val (.int ki), .val (own_kind ki w0 w1 w2 w3 w4 w5), .val (.int lt), .val (.int t0), .val (.int t1), .val (.int o0), .val (.int o1), .val (.int lo), .val (.int (0 : Int32)), .val (.ref tx), .val (.ref ex), .val (.ref b33), .val (.int (own_want ki lt lo t0 t1 o0 o1)), .val (.int (1 : Int32)), .unset] [(.int (1 : Int32)), (.int ki)])
                by_cases hc71 : ki = (1 : Int32)
                · skip
                  refine Go.of (fun _ => XS.icmpYes H58.here hx rfl (pc0 := 227) (pc' := 236) rfl (hb hby at_227) rfl (teq hc71).1 (by decide) (by decide)) ?_
                  show Go p e below _ T57 (mkF m 236 #[.val (.int p0), .val (.int p1), .val (.int p2), .val (.int p3), .val (.int p4), .val (.int p5), .val (.int ki), .val (own_kind ki w0 w1 w2 w3 w4 w5), .val (.int lt), .val (.int t0), .val (.int t1), .val (.int o0), .val (.int o1), .val (.int lo), .val (.int (0 : Int32)), .val (.ref tx), .val (.ref ex), .val (.ref b33), .val (.int (own_want ki lt lo t0 t1 o0 o1)), .val (.int (1 : Int32)), .unset] [])
                  refine Go.of (fun _ => XS.iload H58.here hx rfl (hb hby at_236) rfl) ?_
                  show Go p e below _ T57 (mkF m 238 #[.val (.int p0), .val (.int p1), .val (.int p2), .val (.int p3), .val (.int p4), .val (.int p5), .val (.int ki), .val (own_kind ki w0 w1 w2 w3 w4 w5), .val (.int lt), .val (.int t0), .val (.int t1), .val (.int o0), .val (.int o1), .val (.int lo), .val (.int (0 : Int32)), .val (.ref tx), .val (.ref ex), .val (.ref b33), .val (.int (own_want ki lt lo t0 t1 o0 o1)), .val (.int (1 : Int32)), .unset] [(.int (1 : Int32))])
                  refine Go.of (fun _ => XS.ifNo H58.here hx rfl (hb hby at_238) rfl ((if0 _ _).trans (feq (by decide : ¬ ((1 : Int32) = (0 : Int32)))).1)) ?_
                  show Go p e below _ T57 (mkF m 241 #[.val (.int p0), .val (.int p1), .val (.int p2), .val (.int p3), .val (.int p4), .val (.int p5), .val (.int ki), .val (own_kind ki w0 w1 w2 w3 w4 w5), .val (.int lt), .val (.int t0), .val (.int t1), .val (.int o0), .val (.int o1), .val (.int lo), .val (.int (0 : Int32)), .val (.ref tx), .val (.ref ex), .val (.ref b33), .val (.int (own_want ki lt lo t0 t1 o0 o1)), .val (.int (1 : Int32)), .unset] [])
                  refine Go.of (fun _ => XS.iconst H58.here hx rfl (hb hby at_241)) ?_
                  show Go p e below _ T57 (mkF m 242 #[.val (.int p0), .val (.int p1), .val (.int p2), .val (.int p3), .val (.int p4), .val (.int p5), .val (.int ki), .val (own_kind ki w0 w1 w2 w3 w4 w5), .val (.int lt), .val (.int t0), .val (.int t1), .val (.int o0), .val (.int o1), .val (.int lo), .val (.int (0 : Int32)), .val (.ref tx), .val (.ref ex), .val (.ref b33), .val (.int (own_want ki lt lo t0 t1 o0 o1)), .val (.int (1 : Int32)), .unset] [(.int (1 : Int32))])
                  refine Go.of (fun _ => XS.goto H58.here hx rfl (pc0 := 242) (pc' := 246) rfl (hb hby at_242) (by decide) (by decide)) ?_
                  show Go p e below _ T57 (mkF m 246 #[.val (.int p0), .val (.int p1), .val (.int p2), .val (.int p3), .val (.int p4), .val (.int p5), .val (.int ki), .val (own_kind ki w0 w1 w2 w3 w4 w5), .val (.int lt), .val (.int t0), .val (.int t1), .val (.int o0), .val (.int o1), .val (.int lo), .val (.int (0 : Int32)), .val (.ref tx), .val (.ref ex), .val (.ref b33), .val (.int (own_want ki lt lo t0 t1 o0 o1)), .val (.int (1 : Int32)), .unset] [(.int (1 : Int32))])
                  refine Go.of (fun _ => XS.istore H58.here hx rfl (hb hby at_246) rfl (l' := #[.val (.int p0), .val (.int p1), .val (.int p2), .val (.int p3), .val (.int p4), .val (.int p5), .val (.int ki), .val (own_kind ki w0 w1 w2 w3 w4 w5), .val (.int lt), .val (.int t0), .val (.int t1), .val (.int o0), .val (.int o1), .val (.int lo), .val (.int (0 : Int32)), .val (.ref tx), .val (.ref ex), .val (.ref b33), .val (.int (own_want ki lt lo t0 t1 o0 o1)), .val (.int (1 : Int32)), .val (.int (1 : Int32))]) rfl) ?_
                  show Go p e below _ T57 (mkF m 248 #[.val (.int p0), .val (.int p1), .val (.int p2), .val (.int p3), .val (.int p4), .val (.int p5), .val (.int ki), .val (own_kind ki w0 w1 w2 w3 w4 w5), .val (.int lt), .val (.int t0), .val (.int t1), .val (.int o0), .val (.int o1), .val (.int lo), .val (.int (0 : Int32)), .val (.ref tx), .val (.ref ex), .val (.ref b33), .val (.int (own_want ki lt lo t0 t1 o0 o1)), .val (.int (1 : Int32)), .val (.int (1 : Int32))] [])
                  refine Go.of (fun _ => XS.iload H58.here hx rfl (hb hby at_248) rfl) ?_
                  show Go p e below _ T57 (mkF m 250 #[.val (.int p0), .val (.int p1), .val (.int p2), .val (.int p3), .val (.int p4), .val (.int p5), .val (.int ki), .val (own_kind ki w0 w1 w2 w3 w4 w5), .val (.int lt), .val (.int t0), .val (.int t1), .val (.int o0), .val (.int o1), .val (.int lo), .val (.int (0 : Int32)), .val (.ref tx), .val (.ref ex), .val (.ref b33), .val (.int (own_want ki lt lo t0 t1 o0 o1)), .val (.int (1 : Int32)), .val (.int (1 : Int32))] [(.int (own_want ki lt lo t0 t1 o0 o1))])
                  refine Go.of (fun _ => XS.iload H58.here hx rfl (hb hby at_250) rfl) ?_
                  show Go p e below _ T57 (mkF m 252 #[.val (.int p0), .val (.int p1), .val (.int p2), .val (.int p3), .val (.int p4), .val (.int p5), .val (.int ki), .val (own_kind ki w0 w1 w2 w3 w4 w5), .val (.int lt), .val (.int t0), .val (.int t1), .val (.int o0), .val (.int o1), .val (.int lo), .val (.int (0 : Int32)), .val (.ref tx), .val (.ref ex), .val (.ref b33), .val (.int (own_want ki lt lo t0 t1 o0 o1)), .val (.int (1 : Int32)), .val (.int (1 : Int32))] [(.int (1 : Int32)), (.int (own_want ki lt lo t0 t1 o0 o1))])
                  rw [show (own_want ki lt lo t0 t1 o0 o1) = (1 : Int32) from if_pos ⟨(Or.inl hc71), ⟨hc65, ⟨(Or.inl hc66), (Or.inr hc70)⟩⟩⟩]
                  show Go p e below _ T57 (mkF m 252 #[.val (.int p0), .val (.int p1), .val (.int p2), .val (.int p3), .val (.int p4), .val (.int p5), .val (.int ki), .val (own_kind ki w0 w1 w2 w3 w4 w5), .val (.int lt), .val (.int t0), .val (.int t1), .val (.int o0), .val (.int o1), .val (.int lo), .val (.int (0 : Int32)), .val (.ref tx), .val (.ref ex), .val (.ref b33), .val (.int (1 : Int32)), .val (.int (1 : Int32)), .val (.int (1 : Int32))] [(.int (1 : Int32)), (.int (1 : Int32))])
                  refine Go.of (fun _ => XS.icmpNo H58.here hx rfl (hb hby at_252) rfl (teq (by decide : (1 : Int32) = (1 : Int32))).2) ?_
                  show Go p e below _ T57 (mkF m 255 #[.val (.int p0), .val (.int p1), .val (.int p2), .val (.int p3), .val (.int p4), .val (.int p5), .val (.int ki), .val (own_kind ki w0 w1 w2 w3 w4 w5), .val (.int lt), .val (.int t0), .val (.int t1), .val (.int o0), .val (.int o1), .val (.int lo), .val (.int (0 : Int32)), .val (.ref tx), .val (.ref ex), .val (.ref b33), .val (.int (1 : Int32)), .val (.int (1 : Int32)), .val (.int (1 : Int32))] [])
                  refine Go.of (fun _ => XS.iconst H58.here hx rfl (hb hby at_255)) ?_
                  show Go p e below _ T57 (mkF m 256 #[.val (.int p0), .val (.int p1), .val (.int p2), .val (.int p3), .val (.int p4), .val (.int p5), .val (.int ki), .val (own_kind ki w0 w1 w2 w3 w4 w5), .val (.int lt), .val (.int t0), .val (.int t1), .val (.int o0), .val (.int o1), .val (.int lo), .val (.int (0 : Int32)), .val (.ref tx), .val (.ref ex), .val (.ref b33), .val (.int (1 : Int32)), .val (.int (1 : Int32)), .val (.int (1 : Int32))] [(.int (1 : Int32))])
                  refine Go.of (fun _ => XS.goto H58.here hx rfl (pc0 := 256) (pc' := 260) rfl (hb hby at_256) (by decide) (by decide)) ?_
                  show Go p e below _ T57 (mkF m 260 #[.val (.int p0), .val (.int p1), .val (.int p2), .val (.int p3), .val (.int p4), .val (.int p5), .val (.int ki), .val (own_kind ki w0 w1 w2 w3 w4 w5), .val (.int lt), .val (.int t0), .val (.int t1), .val (.int o0), .val (.int o1), .val (.int lo), .val (.int (0 : Int32)), .val (.ref tx), .val (.ref ex), .val (.ref b33), .val (.int (1 : Int32)), .val (.int (1 : Int32)), .val (.int (1 : Int32))] [(.int (1 : Int32))])
                  exact own_retN H58 hx hlk (t := .boolean) hret (by simp) (hb hby at_260) rfl (by decide) (by decide)
                · skip
                  refine Go.of (fun _ => XS.icmpNo H58.here hx rfl (hb hby at_227) rfl (feq hc71).1) ?_
                  show Go p e below _ T57 (mkF m 230 #[.val (.int p0), .val (.int p1), .val (.int p2), .val (.int p3), .val (.int p4), .val (.int p5), .val (.int ki), .val (own_kind ki w0 w1 w2 w3 w4 w5), .val (.int lt), .val (.int t0), .val (.int t1), .val (.int o0), .val (.int o1), .val (.int lo), .val (.int (0 : Int32)), .val (.ref tx), .val (.ref ex), .val (.ref b33), .val (.int (own_want ki lt lo t0 t1 o0 o1)), .val (.int (1 : Int32)), .unset] [])
                  refine Go.of (fun _ => XS.iload H58.here hx rfl (hb hby at_230) rfl) ?_
                  show Go p e below _ T57 (mkF m 232 #[.val (.int p0), .val (.int p1), .val (.int p2), .val (.int p3), .val (.int p4), .val (.int p5), .val (.int ki), .val (own_kind ki w0 w1 w2 w3 w4 w5), .val (.int lt), .val (.int t0), .val (.int t1), .val (.int o0), .val (.int o1), .val (.int lo), .val (.int (0 : Int32)), .val (.ref tx), .val (.ref ex), .val (.ref b33), .val (.int (own_want ki lt lo t0 t1 o0 o1)), .val (.int (1 : Int32)), .unset] [(.int ki)])
                  refine Go.of (fun _ => XS.iconst H58.here hx rfl (hb hby at_232)) ?_
                  show Go p e below _ T57 (mkF m 233 #[.val (.int p0), .val (.int p1), .val (.int p2), .val (.int p3), .val (.int p4), .val (.int p5), .val (.int ki), .val (own_kind ki w0 w1 w2 w3 w4 w5), .val (.int lt), .val (.int t0), .val (.int t1), .val (.int o0), .val (.int o1), .val (.int lo), .val (.int (0 : Int32)), .val (.ref tx), .val (.ref ex), .val (.ref b33), .val (.int (own_want ki lt lo t0 t1 o0 o1)), .val (.int (1 : Int32)), .unset] [(.int (4 : Int32)), (.int ki)])
                  by_cases hc72 : ki = (4 : Int32)
                  · skip
                    refine Go.of (fun _ => XS.icmpNo H58.here hx rfl (hb hby at_233) rfl (teq hc72).2) ?_
                    show Go p e below _ T57 (mkF m 236 #[.val (.int p0), .val (.int p1), .val (.int p2), .val (.int p3), .val (.int p4), .val (.int p5), .val (.int ki), .val (own_kind ki w0 w1 w2 w3 w4 w5), .val (.int lt), .val (.int t0), .val (.int t1), .val (.int o0), .val (.int o1), .val (.int lo), .val (.int (0 : Int32)), .val (.ref tx), .val (.ref ex), .val (.ref b33), .val (.int (own_want ki lt lo t0 t1 o0 o1)), .val (.int (1 : Int32)), .unset] [])
                    refine Go.of (fun _ => XS.iload H58.here hx rfl (hb hby at_236) rfl) ?_
                    show Go p e below _ T57 (mkF m 238 #[.val (.int p0), .val (.int p1), .val (.int p2), .val (.int p3), .val (.int p4), .val (.int p5), .val (.int ki), .val (own_kind ki w0 w1 w2 w3 w4 w5), .val (.int lt), .val (.int t0), .val (.int t1), .val (.int o0), .val (.int o1), .val (.int lo), .val (.int (0 : Int32)), .val (.ref tx), .val (.ref ex), .val (.ref b33), .val (.int (own_want ki lt lo t0 t1 o0 o1)), .val (.int (1 : Int32)), .unset] [(.int (1 : Int32))])
                    refine Go.of (fun _ => XS.ifNo H58.here hx rfl (hb hby at_238) rfl ((if0 _ _).trans (feq (by decide : ¬ ((1 : Int32) = (0 : Int32)))).1)) ?_
                    show Go p e below _ T57 (mkF m 241 #[.val (.int p0), .val (.int p1), .val (.int p2), .val (.int p3), .val (.int p4), .val (.int p5), .val (.int ki), .val (own_kind ki w0 w1 w2 w3 w4 w5), .val (.int lt), .val (.int t0), .val (.int t1), .val (.int o0), .val (.int o1), .val (.int lo), .val (.int (0 : Int32)), .val (.ref tx), .val (.ref ex), .val (.ref b33), .val (.int (own_want ki lt lo t0 t1 o0 o1)), .val (.int (1 : Int32)), .unset] [])
                    refine Go.of (fun _ => XS.iconst H58.here hx rfl (hb hby at_241)) ?_
                    show Go p e below _ T57 (mkF m 242 #[.val (.int p0), .val (.int p1), .val (.int p2), .val (.int p3), .val (.int p4), .val (.int p5), .val (.int ki), .val (own_kind ki w0 w1 w2 w3 w4 w5), .val (.int lt), .val (.int t0), .val (.int t1), .val (.int o0), .val (.int o1), .val (.int lo), .val (.int (0 : Int32)), .val (.ref tx), .val (.ref ex), .val (.ref b33), .val (.int (own_want ki lt lo t0 t1 o0 o1)), .val (.int (1 : Int32)), .unset] [(.int (1 : Int32))])
                    refine Go.of (fun _ => XS.goto H58.here hx rfl (pc0 := 242) (pc' := 246) rfl (hb hby at_242) (by decide) (by decide)) ?_
                    show Go p e below _ T57 (mkF m 246 #[.val (.int p0), .val (.int p1), .val (.int p2), .val (.int p3), .val (.int p4), .val (.int p5), .val (.int ki), .val (own_kind ki w0 w1 w2 w3 w4 w5), .val (.int lt), .val (.int t0), .val (.int t1), .val (.int o0), .val (.int o1), .val (.int lo), .val (.int (0 : Int32)), .val (.ref tx), .val (.ref ex), .val (.ref b33), .val (.int (own_want ki lt lo t0 t1 o0 o1)), .val (.int (1 : Int32)), .unset] [(.int (1 : Int32))])
                    refine Go.of (fun _ => XS.istore H58.here hx rfl (hb hby at_246) rfl (l' := #[.val (.int p0), .val (.int p1), .val (.int p2), .val (.int p3), .val (.int p4), .val (.int p5), .val (.int ki), .val (own_kind ki w0 w1 w2 w3 w4 w5), .val (.int lt), .val (.int t0), .val (.int t1), .val (.int o0), .val (.int o1), .val (.int lo), .val (.int (0 : Int32)), .val (.ref tx), .val (.ref ex), .val (.ref b33), .val (.int (own_want ki lt lo t0 t1 o0 o1)), .val (.int (1 : Int32)), .val (.int (1 : Int32))]) rfl) ?_
                    show Go p e below _ T57 (mkF m 248 #[.val (.int p0), .val (.int p1), .val (.int p2), .val (.int p3), .val (.int p4), .val (.int p5), .val (.int ki), .val (own_kind ki w0 w1 w2 w3 w4 w5), .val (.int lt), .val (.int t0), .val (.int t1), .val (.int o0), .val (.int o1), .val (.int lo), .val (.int (0 : Int32)), .val (.ref tx), .val (.ref ex), .val (.ref b33), .val (.int (own_want ki lt lo t0 t1 o0 o1)), .val (.int (1 : Int32)), .val (.int (1 : Int32))] [])
                    refine Go.of (fun _ => XS.iload H58.here hx rfl (hb hby at_248) rfl) ?_
                    show Go p e below _ T57 (mkF m 250 #[.val (.int p0), .val (.int p1), .val (.int p2), .val (.int p3), .val (.int p4), .val (.int p5), .val (.int ki), .val (own_kind ki w0 w1 w2 w3 w4 w5), .val (.int lt), .val (.int t0), .val (.int t1), .val (.int o0), .val (.int o1), .val (.int lo), .val (.int (0 : Int32)), .val (.ref tx), .val (.ref ex), .val (.ref b33), .val (.int (own_want ki lt lo t0 t1 o0 o1)), .val (.int (1 : Int32)), .val (.int (1 : Int32))] [(.int (own_want ki lt lo t0 t1 o0 o1))])
                    refine Go.of (fun _ => XS.iload H58.here hx rfl (hb hby at_250) rfl) ?_
                    show Go p e below _ T57 (mkF m 252 #[.val (.int p0), .val (.int p1), .val (.int p2), .val (.int p3), .val (.int p4), .val (.int p5), .val (.int ki), .val (own_kind ki w0 w1 w2 w3 w4 w5), .val (.int lt), .val (.int t0), .val (.int t1), .val (.int o0), .val (.int o1), .val (.int lo), .val (.int (0 : Int32)), .val (.ref tx), .val (.ref ex), .val (.ref b33), .val (.int (own_want ki lt lo t0 t1 o0 o1)), .val (.int (1 : Int32)), .val (.int (1 : Int32))] [(.int (1 : Int32)), (.int (own_want ki lt lo t0 t1 o0 o1))])
                    rw [show (own_want ki lt lo t0 t1 o0 o1) = (1 : Int32) from if_pos ⟨(Or.inr hc72), ⟨hc65, ⟨(Or.inl hc66), (Or.inr hc70)⟩⟩⟩]
                    show Go p e below _ T57 (mkF m 252 #[.val (.int p0), .val (.int p1), .val (.int p2), .val (.int p3), .val (.int p4), .val (.int p5), .val (.int ki), .val (own_kind ki w0 w1 w2 w3 w4 w5), .val (.int lt), .val (.int t0), .val (.int t1), .val (.int o0), .val (.int o1), .val (.int lo), .val (.int (0 : Int32)), .val (.ref tx), .val (.ref ex), .val (.ref b33), .val (.int (1 : Int32)), .val (.int (1 : Int32)), .val (.int (1 : Int32))] [(.int (1 : Int32)), (.int (1 : Int32))])
                    refine Go.of (fun _ => XS.icmpNo H58.here hx rfl (hb hby at_252) rfl (teq (by decide : (1 : Int32) = (1 : Int32))).2) ?_
                    show Go p e below _ T57 (mkF m 255 #[.val (.int p0), .val (.int p1), .val (.int p2), .val (.int p3), .val (.int p4), .val (.int p5), .val (.int ki), .val (own_kind ki w0 w1 w2 w3 w4 w5), .val (.int lt), .val (.int t0), .val (.int t1), .val (.int o0), .val (.int o1), .val (.int lo), .val (.int (0 : Int32)), .val (.ref tx), .val (.ref ex), .val (.ref b33), .val (.int (1 : Int32)), .val (.int (1 : Int32)), .val (.int (1 : Int32))] [])
                    refine Go.of (fun _ => XS.iconst H58.here hx rfl (hb hby at_255)) ?_
                    show Go p e below _ T57 (mkF m 256 #[.val (.int p0), .val (.int p1), .val (.int p2), .val (.int p3), .val (.int p4), .val (.int p5), .val (.int ki), .val (own_kind ki w0 w1 w2 w3 w4 w5), .val (.int lt), .val (.int t0), .val (.int t1), .val (.int o0), .val (.int o1), .val (.int lo), .val (.int (0 : Int32)), .val (.ref tx), .val (.ref ex), .val (.ref b33), .val (.int (1 : Int32)), .val (.int (1 : Int32)), .val (.int (1 : Int32))] [(.int (1 : Int32))])
                    refine Go.of (fun _ => XS.goto H58.here hx rfl (pc0 := 256) (pc' := 260) rfl (hb hby at_256) (by decide) (by decide)) ?_
                    show Go p e below _ T57 (mkF m 260 #[.val (.int p0), .val (.int p1), .val (.int p2), .val (.int p3), .val (.int p4), .val (.int p5), .val (.int ki), .val (own_kind ki w0 w1 w2 w3 w4 w5), .val (.int lt), .val (.int t0), .val (.int t1), .val (.int o0), .val (.int o1), .val (.int lo), .val (.int (0 : Int32)), .val (.ref tx), .val (.ref ex), .val (.ref b33), .val (.int (1 : Int32)), .val (.int (1 : Int32)), .val (.int (1 : Int32))] [(.int (1 : Int32))])
                    exact own_retN H58 hx hlk (t := .boolean) hret (by simp) (hb hby at_260) rfl (by decide) (by decide)
                  · skip
                    refine Go.of (fun _ => XS.icmpYes H58.here hx rfl (pc0 := 233) (pc' := 245) rfl (hb hby at_233) rfl (feq hc72).2 (by decide) (by decide)) ?_
                    show Go p e below _ T57 (mkF m 245 #[.val (.int p0), .val (.int p1), .val (.int p2), .val (.int p3), .val (.int p4), .val (.int p5), .val (.int ki), .val (own_kind ki w0 w1 w2 w3 w4 w5), .val (.int lt), .val (.int t0), .val (.int t1), .val (.int o0), .val (.int o1), .val (.int lo), .val (.int (0 : Int32)), .val (.ref tx), .val (.ref ex), .val (.ref b33), .val (.int (own_want ki lt lo t0 t1 o0 o1)), .val (.int (1 : Int32)), .unset] [])
                    refine Go.of (fun _ => XS.iconst H58.here hx rfl (hb hby at_245)) ?_
                    show Go p e below _ T57 (mkF m 246 #[.val (.int p0), .val (.int p1), .val (.int p2), .val (.int p3), .val (.int p4), .val (.int p5), .val (.int ki), .val (own_kind ki w0 w1 w2 w3 w4 w5), .val (.int lt), .val (.int t0), .val (.int t1), .val (.int o0), .val (.int o1), .val (.int lo), .val (.int (0 : Int32)), .val (.ref tx), .val (.ref ex), .val (.ref b33), .val (.int (own_want ki lt lo t0 t1 o0 o1)), .val (.int (1 : Int32)), .unset] [(.int (0 : Int32))])
                    refine Go.of (fun _ => XS.istore H58.here hx rfl (hb hby at_246) rfl (l' := #[.val (.int p0), .val (.int p1), .val (.int p2), .val (.int p3), .val (.int p4), .val (.int p5), .val (.int ki), .val (own_kind ki w0 w1 w2 w3 w4 w5), .val (.int lt), .val (.int t0), .val (.int t1), .val (.int o0), .val (.int o1), .val (.int lo), .val (.int (0 : Int32)), .val (.ref tx), .val (.ref ex), .val (.ref b33), .val (.int (own_want ki lt lo t0 t1 o0 o1)), .val (.int (1 : Int32)), .val (.int (0 : Int32))]) rfl) ?_
                    show Go p e below _ T57 (mkF m 248 #[.val (.int p0), .val (.int p1), .val (.int p2), .val (.int p3), .val (.int p4), .val (.int p5), .val (.int ki), .val (own_kind ki w0 w1 w2 w3 w4 w5), .val (.int lt), .val (.int t0), .val (.int t1), .val (.int o0), .val (.int o1), .val (.int lo), .val (.int (0 : Int32)), .val (.ref tx), .val (.ref ex), .val (.ref b33), .val (.int (own_want ki lt lo t0 t1 o0 o1)), .val (.int (1 : Int32)), .val (.int (0 : Int32))] [])
                    refine Go.of (fun _ => XS.iload H58.here hx rfl (hb hby at_248) rfl) ?_
                    show Go p e below _ T57 (mkF m 250 #[.val (.int p0), .val (.int p1), .val (.int p2), .val (.int p3), .val (.int p4), .val (.int p5), .val (.int ki), .val (own_kind ki w0 w1 w2 w3 w4 w5), .val (.int lt), .val (.int t0), .val (.int t1), .val (.int o0), .val (.int o1), .val (.int lo), .val (.int (0 : Int32)), .val (.ref tx), .val (.ref ex), .val (.ref b33), .val (.int (own_want ki lt lo t0 t1 o0 o1)), .val (.int (1 : Int32)), .val (.int (0 : Int32))] [(.int (own_want ki lt lo t0 t1 o0 o1))])
                    refine Go.of (fun _ => XS.iload H58.here hx rfl (hb hby at_250) rfl) ?_
                    show Go p e below _ T57 (mkF m 252 #[.val (.int p0), .val (.int p1), .val (.int p2), .val (.int p3), .val (.int p4), .val (.int p5), .val (.int ki), .val (own_kind ki w0 w1 w2 w3 w4 w5), .val (.int lt), .val (.int t0), .val (.int t1), .val (.int o0), .val (.int o1), .val (.int lo), .val (.int (0 : Int32)), .val (.ref tx), .val (.ref ex), .val (.ref b33), .val (.int (own_want ki lt lo t0 t1 o0 o1)), .val (.int (1 : Int32)), .val (.int (0 : Int32))] [(.int (0 : Int32)), (.int (own_want ki lt lo t0 t1 o0 o1))])
                    rw [show (own_want ki lt lo t0 t1 o0 o1) = (0 : Int32) from if_neg (fun q => (fun q => q.elim hc71 hc72) q.1)]
                    show Go p e below _ T57 (mkF m 252 #[.val (.int p0), .val (.int p1), .val (.int p2), .val (.int p3), .val (.int p4), .val (.int p5), .val (.int ki), .val (own_kind ki w0 w1 w2 w3 w4 w5), .val (.int lt), .val (.int t0), .val (.int t1), .val (.int o0), .val (.int o1), .val (.int lo), .val (.int (0 : Int32)), .val (.ref tx), .val (.ref ex), .val (.ref b33), .val (.int (0 : Int32)), .val (.int (1 : Int32)), .val (.int (0 : Int32))] [(.int (0 : Int32)), (.int (0 : Int32))])
                    refine Go.of (fun _ => XS.icmpNo H58.here hx rfl (hb hby at_252) rfl (teq (by decide : (0 : Int32) = (0 : Int32))).2) ?_
                    show Go p e below _ T57 (mkF m 255 #[.val (.int p0), .val (.int p1), .val (.int p2), .val (.int p3), .val (.int p4), .val (.int p5), .val (.int ki), .val (own_kind ki w0 w1 w2 w3 w4 w5), .val (.int lt), .val (.int t0), .val (.int t1), .val (.int o0), .val (.int o1), .val (.int lo), .val (.int (0 : Int32)), .val (.ref tx), .val (.ref ex), .val (.ref b33), .val (.int (0 : Int32)), .val (.int (1 : Int32)), .val (.int (0 : Int32))] [])
                    refine Go.of (fun _ => XS.iconst H58.here hx rfl (hb hby at_255)) ?_
                    show Go p e below _ T57 (mkF m 256 #[.val (.int p0), .val (.int p1), .val (.int p2), .val (.int p3), .val (.int p4), .val (.int p5), .val (.int ki), .val (own_kind ki w0 w1 w2 w3 w4 w5), .val (.int lt), .val (.int t0), .val (.int t1), .val (.int o0), .val (.int o1), .val (.int lo), .val (.int (0 : Int32)), .val (.ref tx), .val (.ref ex), .val (.ref b33), .val (.int (0 : Int32)), .val (.int (1 : Int32)), .val (.int (0 : Int32))] [(.int (1 : Int32))])
                    refine Go.of (fun _ => XS.goto H58.here hx rfl (pc0 := 256) (pc' := 260) rfl (hb hby at_256) (by decide) (by decide)) ?_
                    show Go p e below _ T57 (mkF m 260 #[.val (.int p0), .val (.int p1), .val (.int p2), .val (.int p3), .val (.int p4), .val (.int p5), .val (.int ki), .val (own_kind ki w0 w1 w2 w3 w4 w5), .val (.int lt), .val (.int t0), .val (.int t1), .val (.int o0), .val (.int o1), .val (.int lo), .val (.int (0 : Int32)), .val (.ref tx), .val (.ref ex), .val (.ref b33), .val (.int (0 : Int32)), .val (.int (1 : Int32)), .val (.int (0 : Int32))] [(.int (1 : Int32))])
                    exact own_retN H58 hx hlk (t := .boolean) hret (by simp) (hb hby at_260) rfl (by decide) (by decide)
              · skip
                refine Go.of (fun _ => XS.icmpYes H58.here hx rfl (pc0 := 214) (pc' := 221) rfl (hb hby at_214) rfl (feq hc70).2 (by decide) (by decide)) ?_
                show Go p e below _ T57 (mkF m 221 #[.val (.int p0), .val (.int p1), .val (.int p2), .val (.int p3), .val (.int p4), .val (.int p5), .val (.int ki), .val (own_kind ki w0 w1 w2 w3 w4 w5), .val (.int lt), .val (.int t0), .val (.int t1), .val (.int o0), .val (.int o1), .val (.int lo), .val (.int (0 : Int32)), .val (.ref tx), .val (.ref ex), .val (.ref b33), .val (.int (own_want ki lt lo t0 t1 o0 o1)), .unset, .unset] [])
                refine Go.of (fun _ => XS.iconst H58.here hx rfl (hb hby at_221)) ?_
                show Go p e below _ T57 (mkF m 222 #[.val (.int p0), .val (.int p1), .val (.int p2), .val (.int p3), .val (.int p4), .val (.int p5), .val (.int ki), .val (own_kind ki w0 w1 w2 w3 w4 w5), .val (.int lt), .val (.int t0), .val (.int t1), .val (.int o0), .val (.int o1), .val (.int lo), .val (.int (0 : Int32)), .val (.ref tx), .val (.ref ex), .val (.ref b33), .val (.int (own_want ki lt lo t0 t1 o0 o1)), .unset, .unset] [(.int (0 : Int32))])
                refine Go.of (fun _ => XS.istore H58.here hx rfl (hb hby at_222) rfl (l' := #[.val (.int p0), .val (.int p1), .val (.int p2), .val (.int p3), .val (.int p4), .val (.int p5), .val (.int ki), .val (own_kind ki w0 w1 w2 w3 w4 w5), .val (.int lt), .val (.int t0), .val (.int t1), .val (.int o0), .val (.int o1), .val (.int lo), .val (.int (0 : Int32)), .val (.ref tx), .val (.ref ex), .val (.ref b33), .val (.int (own_want ki lt lo t0 t1 o0 o1)), .val (.int (0 : Int32)), .unset]) rfl) ?_
                show Go p e below _ T57 (mkF m 224 #[.val (.int p0), .val (.int p1), .val (.int p2), .val (.int p3), .val (.int p4), .val (.int p5), .val (.int ki), .val (own_kind ki w0 w1 w2 w3 w4 w5), .val (.int lt), .val (.int t0), .val (.int t1), .val (.int o0), .val (.int o1), .val (.int lo), .val (.int (0 : Int32)), .val (.ref tx), .val (.ref ex), .val (.ref b33), .val (.int (own_want ki lt lo t0 t1 o0 o1)), .val (.int (0 : Int32)), .unset] [])
                refine Go.of (fun _ => XS.iload H58.here hx rfl (hb hby at_224) rfl) ?_
                show Go p e below _ T57 (mkF m 226 #[.val (.int p0), .val (.int p1), .val (.int p2), .val (.int p3), .val (.int p4), .val (.int p5), .val (.int ki), .val (own_kind ki w0 w1 w2 w3 w4 w5), .val (.int lt), .val (.int t0), .val (.int t1), .val (.int o0), .val (.int o1), .val (.int lo), .val (.int (0 : Int32)), .val (.ref tx), .val (.ref ex), .val (.ref b33), .val (.int (own_want ki lt lo t0 t1 o0 o1)), .val (.int (0 : Int32)), .unset] [(.int ki)])
                refine Go.of (fun _ => XS.iconst H58.here hx rfl (hb hby at_226)) ?_
                show Go p e below _ T57 (mkF m 227 #[.val (.int p0), .val (.int p1), .val (.int p2), .val (.int p3), .val (.int p4), .val (.int p5), .val (.int ki), .val (own_kind ki w0 w1 w2 w3 w4 w5), .val (.int lt), .val (.int t0), .val (.int t1), .val (.int o0), .val (.int o1), .val (.int lo), .val (.int (0 : Int32)), .val (.ref tx), .val (.ref ex), .val (.ref b33), .val (.int (own_want ki lt lo t0 t1 o0 o1)), .val (.int (0 : Int32)), .unset] [(.int (1 : Int32)), (.int ki)])
                by_cases hc73 : ki = (1 : Int32)
                · skip
                  refine Go.of (fun _ => XS.icmpYes H58.here hx rfl (pc0 := 227) (pc' := 236) rfl (hb hby at_227) rfl (teq hc73).1 (by decide) (by decide)) ?_
                  show Go p e below _ T57 (mkF m 236 #[.val (.int p0), .val (.int p1), .val (.int p2), .val (.int p3), .val (.int p4), .val (.int p5), .val (.int ki), .val (own_kind ki w0 w1 w2 w3 w4 w5), .val (.int lt), .val (.int t0), .val (.int t1), .val (.int o0), .val (.int o1), .val (.int lo), .val (.int (0 : Int32)), .val (.ref tx), .val (.ref ex), .val (.ref b33), .val (.int (own_want ki lt lo t0 t1 o0 o1)), .val (.int (0 : Int32)), .unset] [])
                  refine Go.of (fun _ => XS.iload H58.here hx rfl (hb hby at_236) rfl) ?_
                  show Go p e below _ T57 (mkF m 238 #[.val (.int p0), .val (.int p1), .val (.int p2), .val (.int p3), .val (.int p4), .val (.int p5), .val (.int ki), .val (own_kind ki w0 w1 w2 w3 w4 w5), .val (.int lt), .val (.int t0), .val (.int t1), .val (.int o0), .val (.int o1), .val (.int lo), .val (.int (0 : Int32)), .val (.ref tx), .val (.ref ex), .val (.ref b33), .val (.int (own_want ki lt lo t0 t1 o0 o1)), .val (.int (0 : Int32)), .unset] [(.int (0 : Int32))])
                  refine Go.of (fun _ => XS.ifYes H58.here hx rfl (pc0 := 238) (pc' := 245) rfl (hb hby at_238) rfl ((if0 _ _).trans (teq (by decide : (0 : Int32) = (0 : Int32))).1) (by decide) (by decide)) ?_
                  show Go p e below _ T57 (mkF m 245 #[.val (.int p0), .val (.int p1), .val (.int p2), .val (.int p3), .val (.int p4), .val (.int p5), .val (.int ki), .val (own_kind ki w0 w1 w2 w3 w4 w5), .val (.int lt), .val (.int t0), .val (.int t1), .val (.int o0), .val (.int o1), .val (.int lo), .val (.int (0 : Int32)), .val (.ref tx), .val (.ref ex), .val (.ref b33), .val (.int (own_want ki lt lo t0 t1 o0 o1)), .val (.int (0 : Int32)), .unset] [])
                  refine Go.of (fun _ => XS.iconst H58.here hx rfl (hb hby at_245)) ?_
                  show Go p e below _ T57 (mkF m 246 #[.val (.int p0), .val (.int p1), .val (.int p2), .val (.int p3), .val (.int p4), .val (.int p5), .val (.int ki), .val (own_kind ki w0 w1 w2 w3 w4 w5), .val (.int lt), .val (.int t0), .val (.int t1), .val (.int o0), .val (.int o1), .val (.int lo), .val (.int (0 : Int32)), .val (.ref tx), .val (.ref ex), .val (.ref b33), .val (.int (own_want ki lt lo t0 t1 o0 o1)), .val (.int (0 : Int32)), .unset] [(.int (0 : Int32))])
                  refine Go.of (fun _ => XS.istore H58.here hx rfl (hb hby at_246) rfl (l' := #[.val (.int p0), .val (.int p1), .val (.int p2), .val (.int p3), .val (.int p4), .val (.int p5), .val (.int ki), .val (own_kind ki w0 w1 w2 w3 w4 w5), .val (.int lt), .val (.int t0), .val (.int t1), .val (.int o0), .val (.int o1), .val (.int lo), .val (.int (0 : Int32)), .val (.ref tx), .val (.ref ex), .val (.ref b33), .val (.int (own_want ki lt lo t0 t1 o0 o1)), .val (.int (0 : Int32)), .val (.int (0 : Int32))]) rfl) ?_
                  show Go p e below _ T57 (mkF m 248 #[.val (.int p0), .val (.int p1), .val (.int p2), .val (.int p3), .val (.int p4), .val (.int p5), .val (.int ki), .val (own_kind ki w0 w1 w2 w3 w4 w5), .val (.int lt), .val (.int t0), .val (.int t1), .val (.int o0), .val (.int o1), .val (.int lo), .val (.int (0 : Int32)), .val (.ref tx), .val (.ref ex), .val (.ref b33), .val (.int (own_want ki lt lo t0 t1 o0 o1)), .val (.int (0 : Int32)), .val (.int (0 : Int32))] [])
                  refine Go.of (fun _ => XS.iload H58.here hx rfl (hb hby at_248) rfl) ?_
                  show Go p e below _ T57 (mkF m 250 #[.val (.int p0), .val (.int p1), .val (.int p2), .val (.int p3), .val (.int p4), .val (.int p5), .val (.int ki), .val (own_kind ki w0 w1 w2 w3 w4 w5), .val (.int lt), .val (.int t0), .val (.int t1), .val (.int o0), .val (.int o1), .val (.int lo), .val (.int (0 : Int32)), .val (.ref tx), .val (.ref ex), .val (.ref b33), .val (.int (own_want ki lt lo t0 t1 o0 o1)), .val (.int (0 : Int32)), .val (.int (0 : Int32))] [(.int (own_want ki lt lo t0 t1 o0 o1))])
                  refine Go.of (fun _ => XS.iload H58.here hx rfl (hb hby at_250) rfl) ?_
                  show Go p e below _ T57 (mkF m 252 #[.val (.int p0), .val (.int p1), .val (.int p2), .val (.int p3), .val (.int p4), .val (.int p5), .val (.int ki), .val (own_kind ki w0 w1 w2 w3 w4 w5), .val (.int lt), .val (.int t0), .val (.int t1), .val (.int o0), .val (.int o1), .val (.int lo), .val (.int (0 : Int32)), .val (.ref tx), .val (.ref ex), .val (.ref b33), .val (.int (own_want ki lt lo t0 t1 o0 o1)), .val (.int (0 : Int32)), .val (.int (0 : Int32))] [(.int (0 : Int32)), (.int (own_want ki lt lo t0 t1 o0 o1))])
                  rw [show (own_want ki lt lo t0 t1 o0 o1) = (0 : Int32) from if_neg (fun q => (fun q => (fun q => (fun q => q.elim hc67 hc70) q.2) q.2) q.2)]
                  show Go p e below _ T57 (mkF m 252 #[.val (.int p0), .val (.int p1), .val (.int p2), .val (.int p3), .val (.int p4), .val (.int p5), .val (.int ki), .val (own_kind ki w0 w1 w2 w3 w4 w5), .val (.int lt), .val (.int t0), .val (.int t1), .val (.int o0), .val (.int o1), .val (.int lo), .val (.int (0 : Int32)), .val (.ref tx), .val (.ref ex), .val (.ref b33), .val (.int (0 : Int32)), .val (.int (0 : Int32)), .val (.int (0 : Int32))] [(.int (0 : Int32)), (.int (0 : Int32))])
                  refine Go.of (fun _ => XS.icmpNo H58.here hx rfl (hb hby at_252) rfl (teq (by decide : (0 : Int32) = (0 : Int32))).2) ?_
                  show Go p e below _ T57 (mkF m 255 #[.val (.int p0), .val (.int p1), .val (.int p2), .val (.int p3), .val (.int p4), .val (.int p5), .val (.int ki), .val (own_kind ki w0 w1 w2 w3 w4 w5), .val (.int lt), .val (.int t0), .val (.int t1), .val (.int o0), .val (.int o1), .val (.int lo), .val (.int (0 : Int32)), .val (.ref tx), .val (.ref ex), .val (.ref b33), .val (.int (0 : Int32)), .val (.int (0 : Int32)), .val (.int (0 : Int32))] [])
                  refine Go.of (fun _ => XS.iconst H58.here hx rfl (hb hby at_255)) ?_
                  show Go p e below _ T57 (mkF m 256 #[.val (.int p0), .val (.int p1), .val (.int p2), .val (.int p3), .val (.int p4), .val (.int p5), .val (.int ki), .val (own_kind ki w0 w1 w2 w3 w4 w5), .val (.int lt), .val (.int t0), .val (.int t1), .val (.int o0), .val (.int o1), .val (.int lo), .val (.int (0 : Int32)), .val (.ref tx), .val (.ref ex), .val (.ref b33), .val (.int (0 : Int32)), .val (.int (0 : Int32)), .val (.int (0 : Int32))] [(.int (1 : Int32))])
                  refine Go.of (fun _ => XS.goto H58.here hx rfl (pc0 := 256) (pc' := 260) rfl (hb hby at_256) (by decide) (by decide)) ?_
                  show Go p e below _ T57 (mkF m 260 #[.val (.int p0), .val (.int p1), .val (.int p2), .val (.int p3), .val (.int p4), .val (.int p5), .val (.int ki), .val (own_kind ki w0 w1 w2 w3 w4 w5), .val (.int lt), .val (.int t0), .val (.int t1), .val (.int o0), .val (.int o1), .val (.int lo), .val (.int (0 : Int32)), .val (.ref tx), .val (.ref ex), .val (.ref b33), .val (.int (0 : Int32)), .val (.int (0 : Int32)), .val (.int (0 : Int32))] [(.int (1 : Int32))])
                  exact own_retN H58 hx hlk (t := .boolean) hret (by simp) (hb hby at_260) rfl (by decide) (by decide)
                · skip
                  refine Go.of (fun _ => XS.icmpNo H58.here hx rfl (hb hby at_227) rfl (feq hc73).1) ?_
                  show Go p e below _ T57 (mkF m 230 #[.val (.int p0), .val (.int p1), .val (.int p2), .val (.int p3), .val (.int p4), .val (.int p5), .val (.int ki), .val (own_kind ki w0 w1 w2 w3 w4 w5), .val (.int lt), .val (.int t0), .val (.int t1), .val (.int o0), .val (.int o1), .val (.int lo), .val (.int (0 : Int32)), .val (.ref tx), .val (.ref ex), .val (.ref b33), .val (.int (own_want ki lt lo t0 t1 o0 o1)), .val (.int (0 : Int32)), .unset] [])
                  refine Go.of (fun _ => XS.iload H58.here hx rfl (hb hby at_230) rfl) ?_
                  show Go p e below _ T57 (mkF m 232 #[.val (.int p0), .val (.int p1), .val (.int p2), .val (.int p3), .val (.int p4), .val (.int p5), .val (.int ki), .val (own_kind ki w0 w1 w2 w3 w4 w5), .val (.int lt), .val (.int t0), .val (.int t1), .val (.int o0), .val (.int o1), .val (.int lo), .val (.int (0 : Int32)), .val (.ref tx), .val (.ref ex), .val (.ref b33), .val (.int (own_want ki lt lo t0 t1 o0 o1)), .val (.int (0 : Int32)), .unset] [(.int ki)])
                  refine Go.of (fun _ => XS.iconst H58.here hx rfl (hb hby at_232)) ?_
                  show Go p e below _ T57 (mkF m 233 #[.val (.int p0), .val (.int p1), .val (.int p2), .val (.int p3), .val (.int p4), .val (.int p5), .val (.int ki), .val (own_kind ki w0 w1 w2 w3 w4 w5), .val (.int lt), .val (.int t0), .val (.int t1), .val (.int o0), .val (.int o1), .val (.int lo), .val (.int (0 : Int32)), .val (.ref tx), .val (.ref ex), .val (.ref b33), .val (.int (own_want ki lt lo t0 t1 o0 o1)), .val (.int (0 : Int32)), .unset] [(.int (4 : Int32)), (.int ki)])
                  by_cases hc74 : ki = (4 : Int32)
                  · skip
                    refine Go.of (fun _ => XS.icmpNo H58.here hx rfl (hb hby at_233) rfl (teq hc74).2) ?_
                    show Go p e below _ T57 (mkF m 236 #[.val (.int p0), .val (.int p1), .val (.int p2), .val (.int p3), .val (.int p4), .val (.int p5), .val (.int ki), .val (own_kind ki w0 w1 w2 w3 w4 w5), .val (.int lt), .val (.int t0), .val (.int t1), .val (.int o0), .val (.int o1), .val (.int lo), .val (.int (0 : Int32)), .val (.ref tx), .val (.ref ex), .val (.ref b33), .val (.int (own_want ki lt lo t0 t1 o0 o1)), .val (.int (0 : Int32)), .unset] [])
                    refine Go.of (fun _ => XS.iload H58.here hx rfl (hb hby at_236) rfl) ?_
                    show Go p e below _ T57 (mkF m 238 #[.val (.int p0), .val (.int p1), .val (.int p2), .val (.int p3), .val (.int p4), .val (.int p5), .val (.int ki), .val (own_kind ki w0 w1 w2 w3 w4 w5), .val (.int lt), .val (.int t0), .val (.int t1), .val (.int o0), .val (.int o1), .val (.int lo), .val (.int (0 : Int32)), .val (.ref tx), .val (.ref ex), .val (.ref b33), .val (.int (own_want ki lt lo t0 t1 o0 o1)), .val (.int (0 : Int32)), .unset] [(.int (0 : Int32))])
                    refine Go.of (fun _ => XS.ifYes H58.here hx rfl (pc0 := 238) (pc' := 245) rfl (hb hby at_238) rfl ((if0 _ _).trans (teq (by decide : (0 : Int32) = (0 : Int32))).1) (by decide) (by decide)) ?_
                    show Go p e below _ T57 (mkF m 245 #[.val (.int p0), .val (.int p1), .val (.int p2), .val (.int p3), .val (.int p4), .val (.int p5), .val (.int ki), .val (own_kind ki w0 w1 w2 w3 w4 w5), .val (.int lt), .val (.int t0), .val (.int t1), .val (.int o0), .val (.int o1), .val (.int lo), .val (.int (0 : Int32)), .val (.ref tx), .val (.ref ex), .val (.ref b33), .val (.int (own_want ki lt lo t0 t1 o0 o1)), .val (.int (0 : Int32)), .unset] [])
                    refine Go.of (fun _ => XS.iconst H58.here hx rfl (hb hby at_245)) ?_
                    show Go p e below _ T57 (mkF m 246 #[.val (.int p0), .val (.int p1), .val (.int p2), .val (.int p3), .val (.int p4), .val (.int p5), .val (.int ki), .val (own_kind ki w0 w1 w2 w3 w4 w5), .val (.int lt), .val (.int t0), .val (.int t1), .val (.int o0), .val (.int o1), .val (.int lo), .val (.int (0 : Int32)), .val (.ref tx), .val (.ref ex), .val (.ref b33), .val (.int (own_want ki lt lo t0 t1 o0 o1)), .val (.int (0 : Int32)), .unset] [(.int (0 : Int32))])
                    refine Go.of (fun _ => XS.istore H58.here hx rfl (hb hby at_246) rfl (l' := #[.val (.int p0), .val (.int p1), .val (.int p2), .val (.int p3), .val (.int p4), .val (.int p5), .val (.int ki), .val (own_kind ki w0 w1 w2 w3 w4 w5), .val (.int lt), .val (.int t0), .val (.int t1), .val (.int o0), .val (.int o1), .val (.int lo), .val (.int (0 : Int32)), .val (.ref tx), .val (.ref ex), .val (.ref b33), .val (.int (own_want ki lt lo t0 t1 o0 o1)), .val (.int (0 : Int32)), .val (.int (0 : Int32))]) rfl) ?_
                    show Go p e below _ T57 (mkF m 248 #[.val (.int p0), .val (.int p1), .val (.int p2), .val (.int p3), .val (.int p4), .val (.int p5), .val (.int ki), .val (own_kind ki w0 w1 w2 w3 w4 w5), .val (.int lt), .val (.int t0), .val (.int t1), .val (.int o0), .val (.int o1), .val (.int lo), .val (.int (0 : Int32)), .val (.ref tx), .val (.ref ex), .val (.ref b33), .val (.int (own_want ki lt lo t0 t1 o0 o1)), .val (.int (0 : Int32)), .val (.int (0 : Int32))] [])
                    refine Go.of (fun _ => XS.iload H58.here hx rfl (hb hby at_248) rfl) ?_
                    show Go p e below _ T57 (mkF m 250 #[.val (.int p0), .val (.int p1), .val (.int p2), .val (.int p3), .val (.int p4), .val (.int p5), .val (.int ki), .val (own_kind ki w0 w1 w2 w3 w4 w5), .val (.int lt), .val (.int t0), .val (.int t1), .val (.int o0), .val (.int o1), .val (.int lo), .val (.int (0 : Int32)), .val (.ref tx), .val (.ref ex), .val (.ref b33), .val (.int (own_want ki lt lo t0 t1 o0 o1)), .val (.int (0 : Int32)), .val (.int (0 : Int32))] [(.int (own_want ki lt lo t0 t1 o0 o1))])
                    refine Go.of (fun _ => XS.iload H58.here hx rfl (hb hby at_250) rfl) ?_
                    show Go p e below _ T57 (mkF m 252 #[.val (.int p0), .val (.int p1), .val (.int p2), .val (.int p3), .val (.int p4), .val (.int p5), .val (.int ki), .val (own_kind ki w0 w1 w2 w3 w4 w5), .val (.int lt), .val (.int t0), .val (.int t1), .val (.int o0), .val (.int o1), .val (.int lo), .val (.int (0 : Int32)), .val (.ref tx), .val (.ref ex), .val (.ref b33), .val (.int (own_want ki lt lo t0 t1 o0 o1)), .val (.int (0 : Int32)), .val (.int (0 : Int32))] [(.int (0 : Int32)), (.int (own_want ki lt lo t0 t1 o0 o1))])
                    rw [show (own_want ki lt lo t0 t1 o0 o1) = (0 : Int32) from if_neg (fun q => (fun q => (fun q => (fun q => q.elim hc67 hc70) q.2) q.2) q.2)]
                    show Go p e below _ T57 (mkF m 252 #[.val (.int p0), .val (.int p1), .val (.int p2), .val (.int p3), .val (.int p4), .val (.int p5), .val (.int ki), .val (own_kind ki w0 w1 w2 w3 w4 w5), .val (.int lt), .val (.int t0), .val (.int t1), .val (.int o0), .val (.int o1), .val (.int lo), .val (.int (0 : Int32)), .val (.ref tx), .val (.ref ex), .val (.ref b33), .val (.int (0 : Int32)), .val (.int (0 : Int32)), .val (.int (0 : Int32))] [(.int (0 : Int32)), (.int (0 : Int32))])
                    refine Go.of (fun _ => XS.icmpNo H58.here hx rfl (hb hby at_252) rfl (teq (by decide : (0 : Int32) = (0 : Int32))).2) ?_
                    show Go p e below _ T57 (mkF m 255 #[.val (.int p0), .val (.int p1), .val (.int p2), .val (.int p3), .val (.int p4), .val (.int p5), .val (.int ki), .val (own_kind ki w0 w1 w2 w3 w4 w5), .val (.int lt), .val (.int t0), .val (.int t1), .val (.int o0), .val (.int o1), .val (.int lo), .val (.int (0 : Int32)), .val (.ref tx), .val (.ref ex), .val (.ref b33), .val (.int (0 : Int32)), .val (.int (0 : Int32)), .val (.int (0 : Int32))] [])
                    refine Go.of (fun _ => XS.iconst H58.here hx rfl (hb hby at_255)) ?_
                    show Go p e below _ T57 (mkF m 256 #[.val (.int p0), .val (.int p1), .val (.int p2), .val (.int p3), .val (.int p4), .val (.int p5), .val (.int ki), .val (own_kind ki w0 w1 w2 w3 w4 w5), .val (.int lt), .val (.int t0), .val (.int t1), .val (.int o0), .val (.int o1), .val (.int lo), .val (.int (0 : Int32)), .val (.ref tx), .val (.ref ex), .val (.ref b33), .val (.int (0 : Int32)), .val (.int (0 : Int32)), .val (.int (0 : Int32))] [(.int (1 : Int32))])
                    refine Go.of (fun _ => XS.goto H58.here hx rfl (pc0 := 256) (pc' := 260) rfl (hb hby at_256) (by decide) (by decide)) ?_
                    show Go p e below _ T57 (mkF m 260 #[.val (.int p0), .val (.int p1), .val (.int p2), .val (.int p3), .val (.int p4), .val (.int p5), .val (.int ki), .val (own_kind ki w0 w1 w2 w3 w4 w5), .val (.int lt), .val (.int t0), .val (.int t1), .val (.int o0), .val (.int o1), .val (.int lo), .val (.int (0 : Int32)), .val (.ref tx), .val (.ref ex), .val (.ref b33), .val (.int (0 : Int32)), .val (.int (0 : Int32)), .val (.int (0 : Int32))] [(.int (1 : Int32))])
                    exact own_retN H58 hx hlk (t := .boolean) hret (by simp) (hb hby at_260) rfl (by decide) (by decide)
                  · skip
                    refine Go.of (fun _ => XS.icmpYes H58.here hx rfl (pc0 := 233) (pc' := 245) rfl (hb hby at_233) rfl (feq hc74).2 (by decide) (by decide)) ?_
                    show Go p e below _ T57 (mkF m 245 #[.val (.int p0), .val (.int p1), .val (.int p2), .val (.int p3), .val (.int p4), .val (.int p5), .val (.int ki), .val (own_kind ki w0 w1 w2 w3 w4 w5), .val (.int lt), .val (.int t0), .val (.int t1), .val (.int o0), .val (.int o1), .val (.int lo), .val (.int (0 : Int32)), .val (.ref tx), .val (.ref ex), .val (.ref b33), .val (.int (own_want ki lt lo t0 t1 o0 o1)), .val (.int (0 : Int32)), .unset] [])
                    refine Go.of (fun _ => XS.iconst H58.here hx rfl (hb hby at_245)) ?_
                    show Go p e below _ T57 (mkF m 246 #[.val (.int p0), .val (.int p1), .val (.int p2), .val (.int p3), .val (.int p4), .val (.int p5), .val (.int ki), .val (own_kind ki w0 w1 w2 w3 w4 w5), .val (.int lt), .val (.int t0), .val (.int t1), .val (.int o0), .val (.int o1), .val (.int lo), .val (.int (0 : Int32)), .val (.ref tx), .val (.ref ex), .val (.ref b33), .val (.int (own_want ki lt lo t0 t1 o0 o1)), .val (.int (0 : Int32)), .unset] [(.int (0 : Int32))])
                    refine Go.of (fun _ => XS.istore H58.here hx rfl (hb hby at_246) rfl (l' := #[.val (.int p0), .val (.int p1), .val (.int p2), .val (.int p3), .val (.int p4), .val (.int p5), .val (.int ki), .val (own_kind ki w0 w1 w2 w3 w4 w5), .val (.int lt), .val (.int t0), .val (.int t1), .val (.int o0), .val (.int o1), .val (.int lo), .val (.int (0 : Int32)), .val (.ref tx), .val (.ref ex), .val (.ref b33), .val (.int (own_want ki lt lo t0 t1 o0 o1)), .val (.int (0 : Int32)), .val (.int (0 : Int32))]) rfl) ?_
                    show Go p e below _ T57 (mkF m 248 #[.val (.int p0), .val (.int p1), .val (.int p2), .val (.int p3), .val (.int p4), .val (.int p5), .val (.int ki), .val (own_kind ki w0 w1 w2 w3 w4 w5), .val (.int lt), .val (.int t0), .val (.int t1), .val (.int o0), .val (.int o1), .val (.int lo), .val (.int (0 : Int32)), .val (.ref tx), .val (.ref ex), .val (.ref b33), .val (.int (own_want ki lt lo t0 t1 o0 o1)), .val (.int (0 : Int32)), .val (.int (0 : Int32))] [])
                    refine Go.of (fun _ => XS.iload H58.here hx rfl (hb hby at_248) rfl) ?_
                    show Go p e below _ T57 (mkF m 250 #[.val (.int p0), .val (.int p1), .val (.int p2), .val (.int p3), .val (.int p4), .val (.int p5), .val (.int ki), .val (own_kind ki w0 w1 w2 w3 w4 w5), .val (.int lt), .val (.int t0), .val (.int t1), .val (.int o0), .val (.int o1), .val (.int lo), .val (.int (0 : Int32)), .val (.ref tx), .val (.ref ex), .val (.ref b33), .val (.int (own_want ki lt lo t0 t1 o0 o1)), .val (.int (0 : Int32)), .val (.int (0 : Int32))] [(.int (own_want ki lt lo t0 t1 o0 o1))])
                    refine Go.of (fun _ => XS.iload H58.here hx rfl (hb hby at_250) rfl) ?_
                    show Go p e below _ T57 (mkF m 252 #[.val (.int p0), .val (.int p1), .val (.int p2), .val (.int p3), .val (.int p4), .val (.int p5), .val (.int ki), .val (own_kind ki w0 w1 w2 w3 w4 w5), .val (.int lt), .val (.int t0), .val (.int t1), .val (.int o0), .val (.int o1), .val (.int lo), .val (.int (0 : Int32)), .val (.ref tx), .val (.ref ex), .val (.ref b33), .val (.int (own_want ki lt lo t0 t1 o0 o1)), .val (.int (0 : Int32)), .val (.int (0 : Int32))] [(.int (0 : Int32)), (.int (own_want ki lt lo t0 t1 o0 o1))])
                    rw [show (own_want ki lt lo t0 t1 o0 o1) = (0 : Int32) from if_neg (fun q => (fun q => q.elim hc73 hc74) q.1)]
                    show Go p e below _ T57 (mkF m 252 #[.val (.int p0), .val (.int p1), .val (.int p2), .val (.int p3), .val (.int p4), .val (.int p5), .val (.int ki), .val (own_kind ki w0 w1 w2 w3 w4 w5), .val (.int lt), .val (.int t0), .val (.int t1), .val (.int o0), .val (.int o1), .val (.int lo), .val (.int (0 : Int32)), .val (.ref tx), .val (.ref ex), .val (.ref b33), .val (.int (0 : Int32)), .val (.int (0 : Int32)), .val (.int (0 : Int32))] [(.int (0 : Int32)), (.int (0 : Int32))])
                    refine Go.of (fun _ => XS.icmpNo H58.here hx rfl (hb hby at_252) rfl (teq (by decide : (0 : Int32) = (0 : Int32))).2) ?_
                    show Go p e below _ T57 (mkF m 255 #[.val (.int p0), .val (.int p1), .val (.int p2), .val (.int p3), .val (.int p4), .val (.int p5), .val (.int ki), .val (own_kind ki w0 w1 w2 w3 w4 w5), .val (.int lt), .val (.int t0), .val (.int t1), .val (.int o0), .val (.int o1), .val (.int lo), .val (.int (0 : Int32)), .val (.ref tx), .val (.ref ex), .val (.ref b33), .val (.int (0 : Int32)), .val (.int (0 : Int32)), .val (.int (0 : Int32))] [])
                    refine Go.of (fun _ => XS.iconst H58.here hx rfl (hb hby at_255)) ?_
                    show Go p e below _ T57 (mkF m 256 #[.val (.int p0), .val (.int p1), .val (.int p2), .val (.int p3), .val (.int p4), .val (.int p5), .val (.int ki), .val (own_kind ki w0 w1 w2 w3 w4 w5), .val (.int lt), .val (.int t0), .val (.int t1), .val (.int o0), .val (.int o1), .val (.int lo), .val (.int (0 : Int32)), .val (.ref tx), .val (.ref ex), .val (.ref b33), .val (.int (0 : Int32)), .val (.int (0 : Int32)), .val (.int (0 : Int32))] [(.int (1 : Int32))])
                    refine Go.of (fun _ => XS.goto H58.here hx rfl (pc0 := 256) (pc' := 260) rfl (hb hby at_256) (by decide) (by decide)) ?_
                    show Go p e below _ T57 (mkF m 260 #[.val (.int p0), .val (.int p1), .val (.int p2), .val (.int p3), .val (.int p4), .val (.int p5), .val (.int ki), .val (own_kind ki w0 w1 w2 w3 w4 w5), .val (.int lt), .val (.int t0), .val (.int t1), .val (.int o0), .val (.int o1), .val (.int lo), .val (.int (0 : Int32)), .val (.ref tx), .val (.ref ex), .val (.ref b33), .val (.int (0 : Int32)), .val (.int (0 : Int32)), .val (.int (0 : Int32))] [(.int (1 : Int32))])
                    exact own_retN H58 hx hlk (t := .boolean) hret (by simp) (hb hby at_260) rfl (by decide) (by decide)
          · skip
            refine Go.of (fun _ => XS.icmpNo H58.here hx rfl (hb hby at_194) rfl (flt hc66).1) ?_
            show Go p e below _ T57 (mkF m 197 #[.val (.int p0), .val (.int p1), .val (.int p2), .val (.int p3), .val (.int p4), .val (.int p5), .val (.int ki), .val (own_kind ki w0 w1 w2 w3 w4 w5), .val (.int lt), .val (.int t0), .val (.int t1), .val (.int o0), .val (.int o1), .val (.int lo), .val (.int (0 : Int32)), .val (.ref tx), .val (.ref ex), .val (.ref b33), .val (.int (own_want ki lt lo t0 t1 o0 o1)), .unset, .unset] [])
            refine Go.of (fun _ => XS.iload H58.here hx rfl (hb hby at_197) rfl) ?_
            show Go p e below _ T57 (mkF m 199 #[.val (.int p0), .val (.int p1), .val (.int p2), .val (.int p3), .val (.int p4), .val (.int p5), .val (.int ki), .val (own_kind ki w0 w1 w2 w3 w4 w5), .val (.int lt), .val (.int t0), .val (.int t1), .val (.int o0), .val (.int o1), .val (.int lo), .val (.int (0 : Int32)), .val (.ref tx), .val (.ref ex), .val (.ref b33), .val (.int (own_want ki lt lo t0 t1 o0 o1)), .unset, .unset] [(.int t0)])
            refine Go.of (fun _ => XS.iload H58.here hx rfl (hb hby at_199) rfl) ?_
            show Go p e below _ T57 (mkF m 201 #[.val (.int p0), .val (.int p1), .val (.int p2), .val (.int p3), .val (.int p4), .val (.int p5), .val (.int ki), .val (own_kind ki w0 w1 w2 w3 w4 w5), .val (.int lt), .val (.int t0), .val (.int t1), .val (.int o0), .val (.int o1), .val (.int lo), .val (.int (0 : Int32)), .val (.ref tx), .val (.ref ex), .val (.ref b33), .val (.int (own_want ki lt lo t0 t1 o0 o1)), .unset, .unset] [(.int o0), (.int t0)])
            by_cases hc75 : t0 = o0
            · skip
              refine Go.of (fun _ => XS.icmpNo H58.here hx rfl (hb hby at_201) rfl (teq hc75).2) ?_
              show Go p e below _ T57 (mkF m 204 #[.val (.int p0), .val (.int p1), .val (.int p2), .val (.int p3), .val (.int p4), .val (.int p5), .val (.int ki), .val (own_kind ki w0 w1 w2 w3 w4 w5), .val (.int lt), .val (.int t0), .val (.int t1), .val (.int o0), .val (.int o1), .val (.int lo), .val (.int (0 : Int32)), .val (.ref tx), .val (.ref ex), .val (.ref b33), .val (.int (own_want ki lt lo t0 t1 o0 o1)), .unset, .unset] [])
              refine Go.of (fun _ => XS.iload H58.here hx rfl (hb hby at_204) rfl) ?_
              show Go p e below _ T57 (mkF m 206 #[.val (.int p0), .val (.int p1), .val (.int p2), .val (.int p3), .val (.int p4), .val (.int p5), .val (.int ki), .val (own_kind ki w0 w1 w2 w3 w4 w5), .val (.int lt), .val (.int t0), .val (.int t1), .val (.int o0), .val (.int o1), .val (.int lo), .val (.int (0 : Int32)), .val (.ref tx), .val (.ref ex), .val (.ref b33), .val (.int (own_want ki lt lo t0 t1 o0 o1)), .unset, .unset] [(.int lt)])
              refine Go.of (fun _ => XS.iconst H58.here hx rfl (hb hby at_206)) ?_
              show Go p e below _ T57 (mkF m 207 #[.val (.int p0), .val (.int p1), .val (.int p2), .val (.int p3), .val (.int p4), .val (.int p5), .val (.int ki), .val (own_kind ki w0 w1 w2 w3 w4 w5), .val (.int lt), .val (.int t0), .val (.int t1), .val (.int o0), .val (.int o1), .val (.int lo), .val (.int (0 : Int32)), .val (.ref tx), .val (.ref ex), .val (.ref b33), .val (.int (own_want ki lt lo t0 t1 o0 o1)), .unset, .unset] [(.int (2 : Int32)), (.int lt)])
              by_cases hc76 : lt < (2 : Int32)
              · skip
                refine Go.of (fun _ => XS.icmpYes H58.here hx rfl (pc0 := 207) (pc' := 217) rfl (hb hby at_207) rfl (tlt hc76).1 (by decide) (by decide)) ?_
                show Go p e below _ T57 (mkF m 217 #[.val (.int p0), .val (.int p1), .val (.int p2), .val (.int p3), .val (.int p4), .val (.int p5), .val (.int ki), .val (own_kind ki w0 w1 w2 w3 w4 w5), .val (.int lt), .val (.int t0), .val (.int t1), .val (.int o0), .val (.int o1), .val (.int lo), .val (.int (0 : Int32)), .val (.ref tx), .val (.ref ex), .val (.ref b33), .val (.int (own_want ki lt lo t0 t1 o0 o1)), .unset, .unset] [])
                refine Go.of (fun _ => XS.iconst H58.here hx rfl (hb hby at_217)) ?_
                show Go p e below _ T57 (mkF m 218 #[.val (.int p0), .val (.int p1), .val (.int p2), .val (.int p3), .val (.int p4), .val (.int p5), .val (.int ki), .val (own_kind ki w0 w1 w2 w3 w4 w5), .val (.int lt), .val (.int t0), .val (.int t1), .val (.int o0), .val (.int o1), .val (.int lo), .val (.int (0 : Int32)), .val (.ref tx), .val (.ref ex), .val (.ref b33), .val (.int (own_want ki lt lo t0 t1 o0 o1)), .unset, .unset] [(.int (1 : Int32))])
                refine Go.of (fun _ => XS.goto H58.here hx rfl (pc0 := 218) (pc' := 222) rfl (hb hby at_218) (by decide) (by decide)) ?_
                show Go p e below _ T57 (mkF m 222 #[.val (.int p0), .val (.int p1), .val (.int p2), .val (.int p3), .val (.int p4), .val (.int p5), .val (.int ki), .val (own_kind ki w0 w1 w2 w3 w4 w5), .val (.int lt), .val (.int t0), .val (.int t1), .val (.int o0), .val (.int o1), .val (.int lo), .val (.int (0 : Int32)), .val (.ref tx), .val (.ref ex), .val (.ref b33), .val (.int (own_want ki lt lo t0 t1 o0 o1)), .unset, .unset] [(.int (1 : Int32))])
                refine Go.of (fun _ => XS.istore H58.here hx rfl (hb hby at_222) rfl (l' := #[.val (.int p0), .val (.int p1), .val (.int p2), .val (.int p3), .val (.int p4), .val (.int p5), .val (.int ki), .val (own_kind ki w0 w1 w2 w3 w4 w5), .val (.int lt), .val (.int t0), .val (.int t1), .val (.int o0), .val (.int o1), .val (.int lo), .val (.int (0 : Int32)), .val (.ref tx), .val (.ref ex), .val (.ref b33), .val (.int (own_want ki lt lo t0 t1 o0 o1)), .val (.int (1 : Int32)), .unset]) rfl) ?_
                show Go p e below _ T57 (mkF m 224 #[.val (.int p0), .val (.int p1), .val (.int p2), .val (.int p3), .val (.int p4), .val (.int p5), .val (.int ki), .val (own_kind ki w0 w1 w2 w3 w4 w5), .val (.int lt), .val (.int t0), .val (.int t1), .val (.int o0), .val (.int o1), .val (.int lo), .val (.int (0 : Int32)), .val (.ref tx), .val (.ref ex), .val (.ref b33), .val (.int (own_want ki lt lo t0 t1 o0 o1)), .val (.int (1 : Int32)), .unset] [])
                refine Go.of (fun _ => XS.iload H58.here hx rfl (hb hby at_224) rfl) ?_
                show Go p e below _ T57 (mkF m 226 #[.val (.int p0), .val (.int p1), .val (.int p2), .val (.int p3), .val (.int p4), .val (.int p5), .val (.int ki), .val (own_kind ki w0 w1 w2 w3 w4 w5), .val (.int lt), .val (.int t0), .val (.int t1), .val (.int o0), .val (.int o1), .val (.int lo), .val (.int (0 : Int32)), .val (.ref tx), .val (.ref ex), .val (.ref b33), .val (.int (own_want ki lt lo t0 t1 o0 o1)), .val (.int (1 : Int32)), .unset] [(.int ki)])
                refine Go.of (fun _ => XS.iconst H58.here hx rfl (hb hby at_226)) ?_
                show Go p e below _ T57 (mkF m 227 #[.val (.int p0), .val (.int p1), .val (.int p2), .val (.int p3), .val (.int p4), .val (.int p5), .val (.int ki), .val (own_kind ki w0 w1 w2 w3 w4 w5), .val (.int lt), .val (.int t0), .val (.int t1), .val (.int o0), .val (.int o1), .val (.int lo), .val (.int (0 : Int32)), .val (.ref tx), .val (.ref ex), .val (.ref b33), .val (.int (own_want ki lt lo t0 t1 o0 o1)), .val (.int (1 : Int32)), .unset] [(.int (1 : Int32)), (.int ki)])
                by_cases hc77 : ki = (1 : Int32)
                · skip
                  refine Go.of (fun _ => XS.icmpYes H58.here hx rfl (pc0 := 227) (pc' := 236) rfl (hb hby at_227) rfl (teq hc77).1 (by decide) (by decide)) ?_
                  show Go p e below _ T57 (mkF m 236 #[.val (.int p0), .val (.int p1), .val (.int p2), .val (.int p3), .val (.int p4), .val (.int p5), .val (.int ki), .val (own_kind ki w0 w1 w2 w3 w4 w5), .val (.int lt), .val (.int t0), .val (.int t1), .val (.int o0), .val (.int o1), .val (.int lo), .val (.int (0 : Int32)), .val (.ref tx), .val (.ref ex), .val (.ref b33), .val (.int (own_want ki lt lo t0 t1 o0 o1)), .val (.int (1 : Int32)), .unset] [])
                  refine Go.of (fun _ => XS.iload H58.here hx rfl (hb hby at_236) rfl) ?_
                  show Go p e below _ T57 (mkF m 238 #[.val (.int p0), .val (.int p1), .val (.int p2), .val (.int p3), .val (.int p4), .val (.int p5), .val (.int ki), .val (own_kind ki w0 w1 w2 w3 w4 w5), .val (.int lt), .val (.int t0), .val (.int t1), .val (.int o0), .val (.int o1), .val (.int lo), .val (.int (0 : Int32)), .val (.ref tx), .val (.ref ex), .val (.ref b33), .val (.int (own_want ki lt lo t0 t1 o0 o1)), .val (.int (1 : Int32)), .unset] [(.int (1 : Int32))])
                  refine Go.of (fun _ => XS.ifNo H58.here hx rfl (hb hby at_238) rfl ((if0 _ _).trans (feq (by decide : ¬ ((1 : Int32) = (0 : Int32)))).1)) ?_
                  show Go p e below _ T57 (mkF m 241 #[.val (.int p0), .val (.int p1), .val (.int p2), .val (.int p3), .val (.int p4), .val (.int p5), .val (.int ki), .val (own_kind ki w0 w1 w2 w3 w4 w5), .val (.int lt), .val (.int t0), .val (.int t1), .val (.int o0), .val (.int o1), .val (.int lo), .val (.int (0 : Int32)), .val (.ref tx), .val (.ref ex), .val (.ref b33), .val (.int (own_want ki lt lo t0 t1 o0 o1)), .val (.int (1 : Int32)), .unset] [])
                  refine Go.of (fun _ => XS.iconst H58.here hx rfl (hb hby at_241)) ?_
                  show Go p e below _ T57 (mkF m 242 #[.val (.int p0), .val (.int p1), .val (.int p2), .val (.int p3), .val (.int p4), .val (.int p5), .val (.int ki), .val (own_kind ki w0 w1 w2 w3 w4 w5), .val (.int lt), .val (.int t0), .val (.int t1), .val (.int o0), .val (.int o1), .val (.int lo), .val (.int (0 : Int32)), .val (.ref tx), .val (.ref ex), .val (.ref b33), .val (.int (own_want ki lt lo t0 t1 o0 o1)), .val (.int (1 : Int32)), .unset] [(.int (1 : Int32))])
                  refine Go.of (fun _ => XS.goto H58.here hx rfl (pc0 := 242) (pc' := 246) rfl (hb hby at_242) (by decide) (by decide)) ?_
                  show Go p e below _ T57 (mkF m 246 #[.val (.int p0), .val (.int p1), .val (.int p2), .val (.int p3), .val (.int p4), .val (.int p5), .val (.int ki), .val (own_kind ki w0 w1 w2 w3 w4 w5), .val (.int lt), .val (.int t0), .val (.int t1), .val (.int o0), .val (.int o1), .val (.int lo), .val (.int (0 : Int32)), .val (.ref tx), .val (.ref ex), .val (.ref b33), .val (.int (own_want ki lt lo t0 t1 o0 o1)), .val (.int (1 : Int32)), .unset] [(.int (1 : Int32))])
                  refine Go.of (fun _ => XS.istore H58.here hx rfl (hb hby at_246) rfl (l' := #[.val (.int p0), .val (.int p1), .val (.int p2), .val (.int p3), .val (.int p4), .val (.int p5), .val (.int ki), .val (own_kind ki w0 w1 w2 w3 w4 w5), .val (.int lt), .val (.int t0), .val (.int t1), .val (.int o0), .val (.int o1), .val (.int lo), .val (.int (0 : Int32)), .val (.ref tx), .val (.ref ex), .val (.ref b33), .val (.int (own_want ki lt lo t0 t1 o0 o1)), .val (.int (1 : Int32)), .val (.int (1 : Int32))]) rfl) ?_
                  show Go p e below _ T57 (mkF m 248 #[.val (.int p0), .val (.int p1), .val (.int p2), .val (.int p3), .val (.int p4), .val (.int p5), .val (.int ki), .val (own_kind ki w0 w1 w2 w3 w4 w5), .val (.int lt), .val (.int t0), .val (.int t1), .val (.int o0), .val (.int o1), .val (.int lo), .val (.int (0 : Int32)), .val (.ref tx), .val (.ref ex), .val (.ref b33), .val (.int (own_want ki lt lo t0 t1 o0 o1)), .val (.int (1 : Int32)), .val (.int (1 : Int32))] [])
                  refine Go.of (fun _ => XS.iload H58.here hx rfl (hb hby at_248) rfl) ?_
                  show Go p e below _ T57 (mkF m 250 #[.val (.int p0), .val (.int p1), .val (.int p2), .val (.int p3), .val (.int p4), .val (.int p5), .val (.int ki), .val (own_kind ki w0 w1 w2 w3 w4 w5), .val (.int lt), .val (.int t0), .val (.int t1), .val (.int o0), .val (.int o1), .val (.int lo), .val (.int (0 : Int32)), .val (.ref tx), .val (.ref ex), .val (.ref b33), .val (.int (own_want ki lt lo t0 t1 o0 o1)), .val (.int (1 : Int32)), .val (.int (1 : Int32))] [(.int (own_want ki lt lo t0 t1 o0 o1))])
                  refine Go.of (fun _ => XS.iload H58.here hx rfl (hb hby at_250) rfl) ?_
                  show Go p e below _ T57 (mkF m 252 #[.val (.int p0), .val (.int p1), .val (.int p2), .val (.int p3), .val (.int p4), .val (.int p5), .val (.int ki), .val (own_kind ki w0 w1 w2 w3 w4 w5), .val (.int lt), .val (.int t0), .val (.int t1), .val (.int o0), .val (.int o1), .val (.int lo), .val (.int (0 : Int32)), .val (.ref tx), .val (.ref ex), .val (.ref b33), .val (.int (own_want ki lt lo t0 t1 o0 o1)), .val (.int (1 : Int32)), .val (.int (1 : Int32))] [(.int (1 : Int32)), (.int (own_want ki lt lo t0 t1 o0 o1))])
                  rw [show (own_want ki lt lo t0 t1 o0 o1) = (1 : Int32) from if_pos ⟨(Or.inl hc77), ⟨hc65, ⟨(Or.inr hc75), (Or.inl hc76)⟩⟩⟩]
                  show Go p e below _ T57 (mkF m 252 #[.val (.int p0), .val (.int p1), .val (.int p2), .val (.int p3), .val (.int p4), .val (.int p5), .val (.int ki), .val (own_kind ki w0 w1 w2 w3 w4 w5), .val (.int lt), .val (.int t0), .val (.int t1), .val (.int o0), .val (.int o1), .val (.int lo), .val (.int (0 : Int32)), .val (.ref tx), .val (.ref ex), .val (.ref b33), .val (.int (1 : Int32)), .val (.int (1 : Int32)), .val (.int (1 : Int32))] [(.int (1 : Int32)), (.int (1 : Int32))])
                  refine Go.of (fun _ => XS.icmpNo H58.here hx rfl (hb hby at_252) rfl (teq (by decide : (1 : Int32) = (1 : Int32))).2) ?_
                  show Go p e below _ T57 (mkF m 255 #[.val (.int p0), .val (.int p1), .val (.int p2), .val (.int p3), .val (.int p4), .val (.int p5), .val (.int ki), .val (own_kind ki w0 w1 w2 w3 w4 w5), .val (.int lt), .val (.int t0), .val (.int t1), .val (.int o0), .val (.int o1), .val (.int lo), .val (.int (0 : Int32)), .val (.ref tx), .val (.ref ex), .val (.ref b33), .val (.int (1 : Int32)), .val (.int (1 : Int32)), .val (.int (1 : Int32))] [])
                  refine Go.of (fun _ => XS.iconst H58.here hx rfl (hb hby at_255)) ?_
                  show Go p e below _ T57 (mkF m 256 #[.val (.int p0), .val (.int p1), .val (.int p2), .val (.int p3), .val (.int p4), .val (.int p5), .val (.int ki), .val (own_kind ki w0 w1 w2 w3 w4 w5), .val (.int lt), .val (.int t0), .val (.int t1), .val (.int o0), .val (.int o1), .val (.int lo), .val (.int (0 : Int32)), .val (.ref tx), .val (.ref ex), .val (.ref b33), .val (.int (1 : Int32)), .val (.int (1 : Int32)), .val (.int (1 : Int32))] [(.int (1 : Int32))])
                  refine Go.of (fun _ => XS.goto H58.here hx rfl (pc0 := 256) (pc' := 260) rfl (hb hby at_256) (by decide) (by decide)) ?_
                  show Go p e below _ T57 (mkF m 260 #[.val (.int p0), .val (.int p1), .val (.int p2), .val (.int p3), .val (.int p4), .val (.int p5), .val (.int ki), .val (own_kind ki w0 w1 w2 w3 w4 w5), .val (.int lt), .val (.int t0), .val (.int t1), .val (.int o0), .val (.int o1), .val (.int lo), .val (.int (0 : Int32)), .val (.ref tx), .val (.ref ex), .val (.ref b33), .val (.int (1 : Int32)), .val (.int (1 : Int32)), .val (.int (1 : Int32))] [(.int (1 : Int32))])
                  exact own_retN H58 hx hlk (t := .boolean) hret (by simp) (hb hby at_260) rfl (by decide) (by decide)
                · skip
                  refine Go.of (fun _ => XS.icmpNo H58.here hx rfl (hb hby at_227) rfl (feq hc77).1) ?_
                  show Go p e below _ T57 (mkF m 230 #[.val (.int p0), .val (.int p1), .val (.int p2), .val (.int p3), .val (.int p4), .val (.int p5), .val (.int ki), .val (own_kind ki w0 w1 w2 w3 w4 w5), .val (.int lt), .val (.int t0), .val (.int t1), .val (.int o0), .val (.int o1), .val (.int lo), .val (.int (0 : Int32)), .val (.ref tx), .val (.ref ex), .val (.ref b33), .val (.int (own_want ki lt lo t0 t1 o0 o1)), .val (.int (1 : Int32)), .unset] [])
                  refine Go.of (fun _ => XS.iload H58.here hx rfl (hb hby at_230) rfl) ?_
                  show Go p e below _ T57 (mkF m 232 #[.val (.int p0), .val (.int p1), .val (.int p2), .val (.int p3), .val (.int p4), .val (.int p5), .val (.int ki), .val (own_kind ki w0 w1 w2 w3 w4 w5), .val (.int lt), .val (.int t0), .val (.int t1), .val (.int o0), .val (.int o1), .val (.int lo), .val (.int (0 : Int32)), .val (.ref tx), .val (.ref ex), .val (.ref b33), .val (.int (own_want ki lt lo t0 t1 o0 o1)), .val (.int (1 : Int32)), .unset] [(.int ki)])
                  refine Go.of (fun _ => XS.iconst H58.here hx rfl (hb hby at_232)) ?_
                  show Go p e below _ T57 (mkF m 233 #[.val (.int p0), .val (.int p1), .val (.int p2), .val (.int p3), .val (.int p4), .val (.int p5), .val (.int ki), .val (own_kind ki w0 w1 w2 w3 w4 w5), .val (.int lt), .val (.int t0), .val (.int t1), .val (.int o0), .val (.int o1), .val (.int lo), .val (.int (0 : Int32)), .val (.ref tx), .val (.ref ex), .val (.ref b33), .val (.int (own_want ki lt lo t0 t1 o0 o1)), .val (.int (1 : Int32)), .unset] [(.int (4 : Int32)), (.int ki)])
                  by_cases hc78 : ki = (4 : Int32)
                  · skip
                    refine Go.of (fun _ => XS.icmpNo H58.here hx rfl (hb hby at_233) rfl (teq hc78).2) ?_
                    show Go p e below _ T57 (mkF m 236 #[.val (.int p0), .val (.int p1), .val (.int p2), .val (.int p3), .val (.int p4), .val (.int p5), .val (.int ki), .val (own_kind ki w0 w1 w2 w3 w4 w5), .val (.int lt), .val (.int t0), .val (.int t1), .val (.int o0), .val (.int o1), .val (.int lo), .val (.int (0 : Int32)), .val (.ref tx), .val (.ref ex), .val (.ref b33), .val (.int (own_want ki lt lo t0 t1 o0 o1)), .val (.int (1 : Int32)), .unset] [])
                    refine Go.of (fun _ => XS.iload H58.here hx rfl (hb hby at_236) rfl) ?_
                    show Go p e below _ T57 (mkF m 238 #[.val (.int p0), .val (.int p1), .val (.int p2), .val (.int p3), .val (.int p4), .val (.int p5), .val (.int ki), .val (own_kind ki w0 w1 w2 w3 w4 w5), .val (.int lt), .val (.int t0), .val (.int t1), .val (.int o0), .val (.int o1), .val (.int lo), .val (.int (0 : Int32)), .val (.ref tx), .val (.ref ex), .val (.ref b33), .val (.int (own_want ki lt lo t0 t1 o0 o1)), .val (.int (1 : Int32)), .unset] [(.int (1 : Int32))])
                    refine Go.of (fun _ => XS.ifNo H58.here hx rfl (hb hby at_238) rfl ((if0 _ _).trans (feq (by decide : ¬ ((1 : Int32) = (0 : Int32)))).1)) ?_
                    show Go p e below _ T57 (mkF m 241 #[.val (.int p0), .val (.int p1), .val (.int p2), .val (.int p3), .val (.int p4), .val (.int p5), .val (.int ki), .val (own_kind ki w0 w1 w2 w3 w4 w5), .val (.int lt), .val (.int t0), .val (.int t1), .val (.int o0), .val (.int o1), .val (.int lo), .val (.int (0 : Int32)), .val (.ref tx), .val (.ref ex), .val (.ref b33), .val (.int (own_want ki lt lo t0 t1 o0 o1)), .val (.int (1 : Int32)), .unset] [])
                    refine Go.of (fun _ => XS.iconst H58.here hx rfl (hb hby at_241)) ?_
                    show Go p e below _ T57 (mkF m 242 #[.val (.int p0), .val (.int p1), .val (.int p2), .val (.int p3), .val (.int p4), .val (.int p5), .val (.int ki), .val (own_kind ki w0 w1 w2 w3 w4 w5), .val (.int lt), .val (.int t0), .val (.int t1), .val (.int o0), .val (.int o1), .val (.int lo), .val (.int (0 : Int32)), .val (.ref tx), .val (.ref ex), .val (.ref b33), .val (.int (own_want ki lt lo t0 t1 o0 o1)), .val (.int (1 : Int32)), .unset] [(.int (1 : Int32))])
                    refine Go.of (fun _ => XS.goto H58.here hx rfl (pc0 := 242) (pc' := 246) rfl (hb hby at_242) (by decide) (by decide)) ?_
                    show Go p e below _ T57 (mkF m 246 #[.val (.int p0), .val (.int p1), .val (.int p2), .val (.int p3), .val (.int p4), .val (.int p5), .val (.int ki), .val (own_kind ki w0 w1 w2 w3 w4 w5), .val (.int lt), .val (.int t0), .val (.int t1), .val (.int o0), .val (.int o1), .val (.int lo), .val (.int (0 : Int32)), .val (.ref tx), .val (.ref ex), .val (.ref b33), .val (.int (own_want ki lt lo t0 t1 o0 o1)), .val (.int (1 : Int32)), .unset] [(.int (1 : Int32))])
                    refine Go.of (fun _ => XS.istore H58.here hx rfl (hb hby at_246) rfl (l' := #[.val (.int p0), .val (.int p1), .val (.int p2), .val (.int p3), .val (.int p4), .val (.int p5), .val (.int ki), .val (own_kind ki w0 w1 w2 w3 w4 w5), .val (.int lt), .val (.int t0), .val (.int t1), .val (.int o0), .val (.int o1), .val (.int lo), .val (.int (0 : Int32)), .val (.ref tx), .val (.ref ex), .val (.ref b33), .val (.int (own_want ki lt lo t0 t1 o0 o1)), .val (.int (1 : Int32)), .val (.int (1 : Int32))]) rfl) ?_
                    show Go p e below _ T57 (mkF m 248 #[.val (.int p0), .val (.int p1), .val (.int p2), .val (.int p3), .val (.int p4), .val (.int p5), .val (.int ki), .val (own_kind ki w0 w1 w2 w3 w4 w5), .val (.int lt), .val (.int t0), .val (.int t1), .val (.int o0), .val (.int o1), .val (.int lo), .val (.int (0 : Int32)), .val (.ref tx), .val (.ref ex), .val (.ref b33), .val (.int (own_want ki lt lo t0 t1 o0 o1)), .val (.int (1 : Int32)), .val (.int (1 : Int32))] [])
                    refine Go.of (fun _ => XS.iload H58.here hx rfl (hb hby at_248) rfl) ?_
                    show Go p e below _ T57 (mkF m 250 #[.val (.int p0), .val (.int p1), .val (.int p2), .val (.int p3), .val (.int p4), .val (.int p5), .val (.int ki), .val (own_kind ki w0 w1 w2 w3 w4 w5), .val (.int lt), .val (.int t0), .val (.int t1), .val (.int o0), .val (.int o1), .val (.int lo), .val (.int (0 : Int32)), .val (.ref tx), .val (.ref ex), .val (.ref b33), .val (.int (own_want ki lt lo t0 t1 o0 o1)), .val (.int (1 : Int32)), .val (.int (1 : Int32))] [(.int (own_want ki lt lo t0 t1 o0 o1))])
                    refine Go.of (fun _ => XS.iload H58.here hx rfl (hb hby at_250) rfl) ?_
                    show Go p e below _ T57 (mkF m 252 #[.val (.int p0), .val (.int p1), .val (.int p2), .val (.int p3), .val (.int p4), .val (.int p5), .val (.int ki), .val (own_kind ki w0 w1 w2 w3 w4 w5), .val (.int lt), .val (.int t0), .val (.int t1), .val (.int o0), .val (.int o1), .val (.int lo), .val (.int (0 : Int32)), .val (.ref tx), .val (.ref ex), .val (.ref b33), .val (.int (own_want ki lt lo t0 t1 o0 o1)), .val (.int (1 : Int32)), .val (.int (1 : Int32))] [(.int (1 : Int32)), (.int (own_want ki lt lo t0 t1 o0 o1))])
                    rw [show (own_want ki lt lo t0 t1 o0 o1) = (1 : Int32) from if_pos ⟨(Or.inr hc78), ⟨hc65, ⟨(Or.inr hc75), (Or.inl hc76)⟩⟩⟩]
                    show Go p e below _ T57 (mkF m 252 #[.val (.int p0), .val (.int p1), .val (.int p2), .val (.int p3), .val (.int p4), .val (.int p5), .val (.int ki), .val (own_kind ki w0 w1 w2 w3 w4 w5), .val (.int lt), .val (.int t0), .val (.int t1), .val (.int o0), .val (.int o1), .val (.int lo), .val (.int (0 : Int32)), .val (.ref tx), .val (.ref ex), .val (.ref b33), .val (.int (1 : Int32)), .val (.int (1 : Int32)), .val (.int (1 : Int32))] [(.int (1 : Int32)), (.int (1 : Int32))])
                    refine Go.of (fun _ => XS.icmpNo H58.here hx rfl (hb hby at_252) rfl (teq (by decide : (1 : Int32) = (1 : Int32))).2) ?_
                    show Go p e below _ T57 (mkF m 255 #[.val (.int p0), .val (.int p1), .val (.int p2), .val (.int p3), .val (.int p4), .val (.int p5), .val (.int ki), .val (own_kind ki w0 w1 w2 w3 w4 w5), .val (.int lt), .val (.int t0), .val (.int t1), .val (.int o0), .val (.int o1), .val (.int lo), .val (.int (0 : Int32)), .val (.ref tx), .val (.ref ex), .val (.ref b33), .val (.int (1 : Int32)), .val (.int (1 : Int32)), .val (.int (1 : Int32))] [])
                    refine Go.of (fun _ => XS.iconst H58.here hx rfl (hb hby at_255)) ?_
                    show Go p e below _ T57 (mkF m 256 #[.val (.int p0), .val (.int p1), .val (.int p2), .val (.int p3), .val (.int p4), .val (.int p5), .val (.int ki), .val (own_kind ki w0 w1 w2 w3 w4 w5), .val (.int lt), .val (.int t0), .val (.int t1), .val (.int o0), .val (.int o1), .val (.int lo), .val (.int (0 : Int32)), .val (.ref tx), .val (.ref ex), .val (.ref b33), .val (.int (1 : Int32)), .val (.int (1 : Int32)), .val (.int (1 : Int32))] [(.int (1 : Int32))])
                    refine Go.of (fun _ => XS.goto H58.here hx rfl (pc0 := 256) (pc' := 260) rfl (hb hby at_256) (by decide) (by decide)) ?_
                    show Go p e below _ T57 (mkF m 260 #[.val (.int p0), .val (.int p1), .val (.int p2), .val (.int p3), .val (.int p4), .val (.int p5), .val (.int ki), .val (own_kind ki w0 w1 w2 w3 w4 w5), .val (.int lt), .val (.int t0), .val (.int t1), .val (.int o0), .val (.int o1), .val (.int lo), .val (.int (0 : Int32)), .val (.ref tx), .val (.ref ex), .val (.ref b33), .val (.int (1 : Int32)), .val (.int (1 : Int32)), .val (.int (1 : Int32))] [(.int (1 : Int32))])
                    exact own_retN H58 hx hlk (t := .boolean) hret (by simp) (hb hby at_260) rfl (by decide) (by decide)
                  · skip
                    refine Go.of (fun _ => XS.icmpYes H58.here hx rfl (pc0 := 233) (pc' := 245) rfl (hb hby at_233) rfl (feq hc78).2 (by decide) (by decide)) ?_
                    show Go p e below _ T57 (mkF m 245 #[.val (.int p0), .val (.int p1), .val (.int p2), .val (.int p3), .val (.int p4), .val (.int p5), .val (.int ki), .val (own_kind ki w0 w1 w2 w3 w4 w5), .val (.int lt), .val (.int t0), .val (.int t1), .val (.int o0), .val (.int o1), .val (.int lo), .val (.int (0 : Int32)), .val (.ref tx), .val (.ref ex), .val (.ref b33), .val (.int (own_want ki lt lo t0 t1 o0 o1)), .val (.int (1 : Int32)), .unset] [])
                    refine Go.of (fun _ => XS.iconst H58.here hx rfl (hb hby at_245)) ?_
                    show Go p e below _ T57 (mkF m 246 #[.val (.int p0), .val (.int p1), .val (.int p2), .val (.int p3), .val (.int p4), .val (.int p5), .val (.int ki), .val (own_kind ki w0 w1 w2 w3 w4 w5), .val (.int lt), .val (.int t0), .val (.int t1), .val (.int o0), .val (.int o1), .val (.int lo), .val (.int (0 : Int32)), .val (.ref tx), .val (.ref ex), .val (.ref b33), .val (.int (own_want ki lt lo t0 t1 o0 o1)), .val (.int (1 : Int32)), .unset] [(.int (0 : Int32))])
                    refine Go.of (fun _ => XS.istore H58.here hx rfl (hb hby at_246) rfl (l' := #[.val (.int p0), .val (.int p1), .val (.int p2), .val (.int p3), .val (.int p4), .val (.int p5), .val (.int ki), .val (own_kind ki w0 w1 w2 w3 w4 w5), .val (.int lt), .val (.int t0), .val (.int t1), .val (.int o0), .val (.int o1), .val (.int lo), .val (.int (0 : Int32)), .val (.ref tx), .val (.ref ex), .val (.ref b33), .val (.int (own_want ki lt lo t0 t1 o0 o1)), .val (.int (1 : Int32)), .val (.int (0 : Int32))]) rfl) ?_
                    show Go p e below _ T57 (mkF m 248 #[.val (.int p0), .val (.int p1), .val (.int p2), .val (.int p3), .val (.int p4), .val (.int p5), .val (.int ki), .val (own_kind ki w0 w1 w2 w3 w4 w5), .val (.int lt), .val (.int t0), .val (.int t1), .val (.int o0), .val (.int o1), .val (.int lo), .val (.int (0 : Int32)), .val (.ref tx), .val (.ref ex), .val (.ref b33), .val (.int (own_want ki lt lo t0 t1 o0 o1)), .val (.int (1 : Int32)), .val (.int (0 : Int32))] [])
                    refine Go.of (fun _ => XS.iload H58.here hx rfl (hb hby at_248) rfl) ?_
                    show Go p e below _ T57 (mkF m 250 #[.val (.int p0), .val (.int p1), .val (.int p2), .val (.int p3), .val (.int p4), .val (.int p5), .val (.int ki), .val (own_kind ki w0 w1 w2 w3 w4 w5), .val (.int lt), .val (.int t0), .val (.int t1), .val (.int o0), .val (.int o1), .val (.int lo), .val (.int (0 : Int32)), .val (.ref tx), .val (.ref ex), .val (.ref b33), .val (.int (own_want ki lt lo t0 t1 o0 o1)), .val (.int (1 : Int32)), .val (.int (0 : Int32))] [(.int (own_want ki lt lo t0 t1 o0 o1))])
                    refine Go.of (fun _ => XS.iload H58.here hx rfl (hb hby at_250) rfl) ?_
                    show Go p e below _ T57 (mkF m 252 #[.val (.int p0), .val (.int p1), .val (.int p2), .val (.int p3), .val (.int p4), .val (.int p5), .val (.int ki), .val (own_kind ki w0 w1 w2 w3 w4 w5), .val (.int lt), .val (.int t0), .val (.int t1), .val (.int o0), .val (.int o1), .val (.int lo), .val (.int (0 : Int32)), .val (.ref tx), .val (.ref ex), .val (.ref b33), .val (.int (own_want ki lt lo t0 t1 o0 o1)), .val (.int (1 : Int32)), .val (.int (0 : Int32))] [(.int (0 : Int32)), (.int (own_want ki lt lo t0 t1 o0 o1))])
                    rw [show (own_want ki lt lo t0 t1 o0 o1) = (0 : Int32) from if_neg (fun q => (fun q => q.elim hc77 hc78) q.1)]
                    show Go p e below _ T57 (mkF m 252 #[.val (.int p0), .val (.int p1), .val (.int p2), .val (.int p3), .val (.int p4), .val (.int p5), .val (.int ki), .val (own_kind ki w0 w1 w2 w3 w4 w5), .val (.int lt), .val (.int t0), .val (.int t1), .val (.int o0), .val (.int o1), .val (.int lo), .val (.int (0 : Int32)), .val (.ref tx), .val (.ref ex), .val (.ref b33), .val (.int (0 : Int32)), .val (.int (1 : Int32)), .val (.int (0 : Int32))] [(.int (0 : Int32)), (.int (0 : Int32))])
                    refine Go.of (fun _ => XS.icmpNo H58.here hx rfl (hb hby at_252) rfl (teq (by decide : (0 : Int32) = (0 : Int32))).2) ?_
                    show Go p e below _ T57 (mkF m 255 #[.val (.int p0), .val (.int p1), .val (.int p2), .val (.int p3), .val (.int p4), .val (.int p5), .val (.int ki), .val (own_kind ki w0 w1 w2 w3 w4 w5), .val (.int lt), .val (.int t0), .val (.int t1), .val (.int o0), .val (.int o1), .val (.int lo), .val (.int (0 : Int32)), .val (.ref tx), .val (.ref ex), .val (.ref b33), .val (.int (0 : Int32)), .val (.int (1 : Int32)), .val (.int (0 : Int32))] [])
                    refine Go.of (fun _ => XS.iconst H58.here hx rfl (hb hby at_255)) ?_
                    show Go p e below _ T57 (mkF m 256 #[.val (.int p0), .val (.int p1), .val (.int p2), .val (.int p3), .val (.int p4), .val (.int p5), .val (.int ki), .val (own_kind ki w0 w1 w2 w3 w4 w5), .val (.int lt), .val (.int t0), .val (.int t1), .val (.int o0), .val (.int o1), .val (.int lo), .val (.int (0 : Int32)), .val (.ref tx), .val (.ref ex), .val (.ref b33), .val (.int (0 : Int32)), .val (.int (1 : Int32)), .val (.int (0 : Int32))] [(.int (1 : Int32))])
                    refine Go.of (fun _ => XS.goto H58.here hx rfl (pc0 := 256) (pc' := 260) rfl (hb hby at_256) (by decide) (by decide)) ?_
                    show Go p e below _ T57 (mkF m 260 #[.val (.int p0), .val (.int p1), .val (.int p2), .val (.int p3), .val (.int p4), .val (.int p5), .val (.int ki), .val (own_kind ki w0 w1 w2 w3 w4 w5), .val (.int lt), .val (.int t0), .val (.int t1), .val (.int o0), .val (.int o1), .val (.int lo), .val (.int (0 : Int32)), .val (.ref tx), .val (.ref ex), .val (.ref b33), .val (.int (0 : Int32)), .val (.int (1 : Int32)), .val (.int (0 : Int32))] [(.int (1 : Int32))])
                    exact own_retN H58 hx hlk (t := .boolean) hret (by simp) (hb hby at_260) rfl (by decide) (by decide)
              · skip
                refine Go.of (fun _ => XS.icmpNo H58.here hx rfl (hb hby at_207) rfl (flt hc76).1) ?_
                show Go p e below _ T57 (mkF m 210 #[.val (.int p0), .val (.int p1), .val (.int p2), .val (.int p3), .val (.int p4), .val (.int p5), .val (.int ki), .val (own_kind ki w0 w1 w2 w3 w4 w5), .val (.int lt), .val (.int t0), .val (.int t1), .val (.int o0), .val (.int o1), .val (.int lo), .val (.int (0 : Int32)), .val (.ref tx), .val (.ref ex), .val (.ref b33), .val (.int (own_want ki lt lo t0 t1 o0 o1)), .unset, .unset] [])
                refine Go.of (fun _ => XS.iload H58.here hx rfl (hb hby at_210) rfl) ?_
                show Go p e below _ T57 (mkF m 212 #[.val (.int p0), .val (.int p1), .val (.int p2), .val (.int p3), .val (.int p4), .val (.int p5), .val (.int ki), .val (own_kind ki w0 w1 w2 w3 w4 w5), .val (.int lt), .val (.int t0), .val (.int t1), .val (.int o0), .val (.int o1), .val (.int lo), .val (.int (0 : Int32)), .val (.ref tx), .val (.ref ex), .val (.ref b33), .val (.int (own_want ki lt lo t0 t1 o0 o1)), .unset, .unset] [(.int t1)])
                refine Go.of (fun _ => XS.iload H58.here hx rfl (hb hby at_212) rfl) ?_
                show Go p e below _ T57 (mkF m 214 #[.val (.int p0), .val (.int p1), .val (.int p2), .val (.int p3), .val (.int p4), .val (.int p5), .val (.int ki), .val (own_kind ki w0 w1 w2 w3 w4 w5), .val (.int lt), .val (.int t0), .val (.int t1), .val (.int o0), .val (.int o1), .val (.int lo), .val (.int (0 : Int32)), .val (.ref tx), .val (.ref ex), .val (.ref b33), .val (.int (own_want ki lt lo t0 t1 o0 o1)), .unset, .unset] [(.int o1), (.int t1)])
                by_cases hc79 : t1 = o1
                · skip
                  refine Go.of (fun _ => XS.icmpNo H58.here hx rfl (hb hby at_214) rfl (teq hc79).2) ?_
                  show Go p e below _ T57 (mkF m 217 #[.val (.int p0), .val (.int p1), .val (.int p2), .val (.int p3), .val (.int p4), .val (.int p5), .val (.int ki), .val (own_kind ki w0 w1 w2 w3 w4 w5), .val (.int lt), .val (.int t0), .val (.int t1), .val (.int o0), .val (.int o1), .val (.int lo), .val (.int (0 : Int32)), .val (.ref tx), .val (.ref ex), .val (.ref b33), .val (.int (own_want ki lt lo t0 t1 o0 o1)), .unset, .unset] [])
                  refine Go.of (fun _ => XS.iconst H58.here hx rfl (hb hby at_217)) ?_
                  show Go p e below _ T57 (mkF m 218 #[.val (.int p0), .val (.int p1), .val (.int p2), .val (.int p3), .val (.int p4), .val (.int p5), .val (.int ki), .val (own_kind ki w0 w1 w2 w3 w4 w5), .val (.int lt), .val (.int t0), .val (.int t1), .val (.int o0), .val (.int o1), .val (.int lo), .val (.int (0 : Int32)), .val (.ref tx), .val (.ref ex), .val (.ref b33), .val (.int (own_want ki lt lo t0 t1 o0 o1)), .unset, .unset] [(.int (1 : Int32))])
                  refine Go.of (fun _ => XS.goto H58.here hx rfl (pc0 := 218) (pc' := 222) rfl (hb hby at_218) (by decide) (by decide)) ?_
                  show Go p e below _ T57 (mkF m 222 #[.val (.int p0), .val (.int p1), .val (.int p2), .val (.int p3), .val (.int p4), .val (.int p5), .val (.int ki), .val (own_kind ki w0 w1 w2 w3 w4 w5), .val (.int lt), .val (.int t0), .val (.int t1), .val (.int o0), .val (.int o1), .val (.int lo), .val (.int (0 : Int32)), .val (.ref tx), .val (.ref ex), .val (.ref b33), .val (.int (own_want ki lt lo t0 t1 o0 o1)), .unset, .unset] [(.int (1 : Int32))])
                  refine Go.of (fun _ => XS.istore H58.here hx rfl (hb hby at_222) rfl (l' := #[.val (.int p0), .val (.int p1), .val (.int p2), .val (.int p3), .val (.int p4), .val (.int p5), .val (.int ki), .val (own_kind ki w0 w1 w2 w3 w4 w5), .val (.int lt), .val (.int t0), .val (.int t1), .val (.int o0), .val (.int o1), .val (.int lo), .val (.int (0 : Int32)), .val (.ref tx), .val (.ref ex), .val (.ref b33), .val (.int (own_want ki lt lo t0 t1 o0 o1)), .val (.int (1 : Int32)), .unset]) rfl) ?_
                  show Go p e below _ T57 (mkF m 224 #[.val (.int p0), .val (.int p1), .val (.int p2), .val (.int p3), .val (.int p4), .val (.int p5), .val (.int ki), .val (own_kind ki w0 w1 w2 w3 w4 w5), .val (.int lt), .val (.int t0), .val (.int t1), .val (.int o0), .val (.int o1), .val (.int lo), .val (.int (0 : Int32)), .val (.ref tx), .val (.ref ex), .val (.ref b33), .val (.int (own_want ki lt lo t0 t1 o0 o1)), .val (.int (1 : Int32)), .unset] [])
                  refine Go.of (fun _ => XS.iload H58.here hx rfl (hb hby at_224) rfl) ?_
                  show Go p e below _ T57 (mkF m 226 #[.val (.int p0), .val (.int p1), .val (.int p2), .val (.int p3), .val (.int p4), .val (.int p5), .val (.int ki), .val (own_kind ki w0 w1 w2 w3 w4 w5), .val (.int lt), .val (.int t0), .val (.int t1), .val (.int o0), .val (.int o1), .val (.int lo), .val (.int (0 : Int32)), .val (.ref tx), .val (.ref ex), .val (.ref b33), .val (.int (own_want ki lt lo t0 t1 o0 o1)), .val (.int (1 : Int32)), .unset] [(.int ki)])
                  refine Go.of (fun _ => XS.iconst H58.here hx rfl (hb hby at_226)) ?_
                  show Go p e below _ T57 (mkF m 227 #[.val (.int p0), .val (.int p1), .val (.int p2), .val (.int p3), .val (.int p4), .val (.int p5), .val (.int ki), .val (own_kind ki w0 w1 w2 w3 w4 w5), .val (.int lt), .val (.int t0), .val (.int t1), .val (.int o0), .val (.int o1), .val (.int lo), .val (.int (0 : Int32)), .val (.ref tx), .val (.ref ex), .val (.ref b33), .val (.int (own_want ki lt lo t0 t1 o0 o1)), .val (.int (1 : Int32)), .unset] [(.int (1 : Int32)), (.int ki)])
                  by_cases hc80 : ki = (1 : Int32)
                  · skip
                    refine Go.of (fun _ => XS.icmpYes H58.here hx rfl (pc0 := 227) (pc' := 236) rfl (hb hby at_227) rfl (teq hc80).1 (by decide) (by decide)) ?_
                    show Go p e below _ T57 (mkF m 236 #[.val (.int p0), .val (.int p1), .val (.int p2), .val (.int p3), .val (.int p4), .val (.int p5), .val (.int ki), .val (own_kind ki w0 w1 w2 w3 w4 w5), .val (.int lt), .val (.int t0), .val (.int t1), .val (.int o0), .val (.int o1), .val (.int lo), .val (.int (0 : Int32)), .val (.ref tx), .val (.ref ex), .val (.ref b33), .val (.int (own_want ki lt lo t0 t1 o0 o1)), .val (.int (1 : Int32)), .unset] [])
                    refine Go.of (fun _ => XS.iload H58.here hx rfl (hb hby at_236) rfl) ?_
                    show Go p e below _ T57 (mkF m 238 #[.val (.int p0), .val (.int p1), .val (.int p2), .val (.int p3), .val (.int p4), .val (.int p5), .val (.int ki), .val (own_kind ki w0 w1 w2 w3 w4 w5), .val (.int lt), .val (.int t0), .val (.int t1), .val (.int o0), .val (.int o1), .val (.int lo), .val (.int (0 : Int32)), .val (.ref tx), .val (.ref ex), .val (.ref b33), .val (.int (own_want ki lt lo t0 t1 o0 o1)), .val (.int (1 : Int32)), .unset] [(.int (1 : Int32))])
                    refine Go.of (fun _ => XS.ifNo H58.here hx rfl (hb hby at_238) rfl ((if0 _ _).trans (feq (by decide : ¬ ((1 : Int32) = (0 : Int32)))).1)) ?_
                    show Go p e below _ T57 (mkF m 241 #[.val (.int p0), .val (.int p1), .val (.int p2), .val (.int p3), .val (.int p4), .val (.int p5), .val (.int ki), .val (own_kind ki w0 w1 w2 w3 w4 w5), .val (.int lt), .val (.int t0), .val (.int t1), .val (.int o0), .val (.int o1), .val (.int lo), .val (.int (0 : Int32)), .val (.ref tx), .val (.ref ex), .val (.ref b33), .val (.int (own_want ki lt lo t0 t1 o0 o1)), .val (.int (1 : Int32)), .unset] [])
                    refine Go.of (fun _ => XS.iconst H58.here hx rfl (hb hby at_241)) ?_
                    show Go p e below _ T57 (mkF m 242 #[.val (.int p0), .val (.int p1), .val (.int p2), .val (.int p3), .val (.int p4), .val (.int p5), .val (.int ki), .val (own_kind ki w0 w1 w2 w3 w4 w5), .val (.int lt), .val (.int t0), .val (.int t1), .val (.int o0), .val (.int o1), .val (.int lo), .val (.int (0 : Int32)), .val (.ref tx), .val (.ref ex), .val (.ref b33), .val (.int (own_want ki lt lo t0 t1 o0 o1)), .val (.int (1 : Int32)), .unset] [(.int (1 : Int32))])
                    refine Go.of (fun _ => XS.goto H58.here hx rfl (pc0 := 242) (pc' := 246) rfl (hb hby at_242) (by decide) (by decide)) ?_
                    show Go p e below _ T57 (mkF m 246 #[.val (.int p0), .val (.int p1), .val (.int p2), .val (.int p3), .val (.int p4), .val (.int p5), .val (.int ki), .val (own_kind ki w0 w1 w2 w3 w4 w5), .val (.int lt), .val (.int t0), .val (.int t1), .val (.int o0), .val (.int o1), .val (.int lo), .val (.int (0 : Int32)), .val (.ref tx), .val (.ref ex), .val (.ref b33), .val (.int (own_want ki lt lo t0 t1 o0 o1)), .val (.int (1 : Int32)), .unset] [(.int (1 : Int32))])
                    refine Go.of (fun _ => XS.istore H58.here hx rfl (hb hby at_246) rfl (l' := #[.val (.int p0), .val (.int p1), .val (.int p2), .val (.int p3), .val (.int p4), .val (.int p5), .val (.int ki), .val (own_kind ki w0 w1 w2 w3 w4 w5), .val (.int lt), .val (.int t0), .val (.int t1), .val (.int o0), .val (.int o1), .val (.int lo), .val (.int (0 : Int32)), .val (.ref tx), .val (.ref ex), .val (.ref b33), .val (.int (own_want ki lt lo t0 t1 o0 o1)), .val (.int (1 : Int32)), .val (.int (1 : Int32))]) rfl) ?_
                    show Go p e below _ T57 (mkF m 248 #[.val (.int p0), .val (.int p1), .val (.int p2), .val (.int p3), .val (.int p4), .val (.int p5), .val (.int ki), .val (own_kind ki w0 w1 w2 w3 w4 w5), .val (.int lt), .val (.int t0), .val (.int t1), .val (.int o0), .val (.int o1), .val (.int lo), .val (.int (0 : Int32)), .val (.ref tx), .val (.ref ex), .val (.ref b33), .val (.int (own_want ki lt lo t0 t1 o0 o1)), .val (.int (1 : Int32)), .val (.int (1 : Int32))] [])
                    refine Go.of (fun _ => XS.iload H58.here hx rfl (hb hby at_248) rfl) ?_
                    show Go p e below _ T57 (mkF m 250 #[.val (.int p0), .val (.int p1), .val (.int p2), .val (.int p3), .val (.int p4), .val (.int p5), .val (.int ki), .val (own_kind ki w0 w1 w2 w3 w4 w5), .val (.int lt), .val (.int t0), .val (.int t1), .val (.int o0), .val (.int o1), .val (.int lo), .val (.int (0 : Int32)), .val (.ref tx), .val (.ref ex), .val (.ref b33), .val (.int (own_want ki lt lo t0 t1 o0 o1)), .val (.int (1 : Int32)), .val (.int (1 : Int32))] [(.int (own_want ki lt lo t0 t1 o0 o1))])
                    refine Go.of (fun _ => XS.iload H58.here hx rfl (hb hby at_250) rfl) ?_
                    show Go p e below _ T57 (mkF m 252 #[.val (.int p0), .val (.int p1), .val (.int p2), .val (.int p3), .val (.int p4), .val (.int p5), .val (.int ki), .val (own_kind ki w0 w1 w2 w3 w4 w5), .val (.int lt), .val (.int t0), .val (.int t1), .val (.int o0), .val (.int o1), .val (.int lo), .val (.int (0 : Int32)), .val (.ref tx), .val (.ref ex), .val (.ref b33), .val (.int (own_want ki lt lo t0 t1 o0 o1)), .val (.int (1 : Int32)), .val (.int (1 : Int32))] [(.int (1 : Int32)), (.int (own_want ki lt lo t0 t1 o0 o1))])
                    rw [show (own_want ki lt lo t0 t1 o0 o1) = (1 : Int32) from if_pos ⟨(Or.inl hc80), ⟨hc65, ⟨(Or.inr hc75), (Or.inr hc79)⟩⟩⟩]
                    show Go p e below _ T57 (mkF m 252 #[.val (.int p0), .val (.int p1), .val (.int p2), .val (.int p3), .val (.int p4), .val (.int p5), .val (.int ki), .val (own_kind ki w0 w1 w2 w3 w4 w5), .val (.int lt), .val (.int t0), .val (.int t1), .val (.int o0), .val (.int o1), .val (.int lo), .val (.int (0 : Int32)), .val (.ref tx), .val (.ref ex), .val (.ref b33), .val (.int (1 : Int32)), .val (.int (1 : Int32)), .val (.int (1 : Int32))] [(.int (1 : Int32)), (.int (1 : Int32))])
                    refine Go.of (fun _ => XS.icmpNo H58.here hx rfl (hb hby at_252) rfl (teq (by decide : (1 : Int32) = (1 : Int32))).2) ?_
                    show Go p e below _ T57 (mkF m 255 #[.val (.int p0), .val (.int p1), .val (.int p2), .val (.int p3), .val (.int p4), .val (.int p5), .val (.int ki), .val (own_kind ki w0 w1 w2 w3 w4 w5), .val (.int lt), .val (.int t0), .val (.int t1), .val (.int o0), .val (.int o1), .val (.int lo), .val (.int (0 : Int32)), .val (.ref tx), .val (.ref ex), .val (.ref b33), .val (.int (1 : Int32)), .val (.int (1 : Int32)), .val (.int (1 : Int32))] [])
                    refine Go.of (fun _ => XS.iconst H58.here hx rfl (hb hby at_255)) ?_
                    show Go p e below _ T57 (mkF m 256 #[.val (.int p0), .val (.int p1), .val (.int p2), .val (.int p3), .val (.int p4), .val (.int p5), .val (.int ki), .val (own_kind ki w0 w1 w2 w3 w4 w5), .val (.int lt), .val (.int t0), .val (.int t1), .val (.int o0), .val (.int o1), .val (.int lo), .val (.int (0 : Int32)), .val (.ref tx), .val (.ref ex), .val (.ref b33), .val (.int (1 : Int32)), .val (.int (1 : Int32)), .val (.int (1 : Int32))] [(.int (1 : Int32))])
                    refine Go.of (fun _ => XS.goto H58.here hx rfl (pc0 := 256) (pc' := 260) rfl (hb hby at_256) (by decide) (by decide)) ?_
                    show Go p e below _ T57 (mkF m 260 #[.val (.int p0), .val (.int p1), .val (.int p2), .val (.int p3), .val (.int p4), .val (.int p5), .val (.int ki), .val (own_kind ki w0 w1 w2 w3 w4 w5), .val (.int lt), .val (.int t0), .val (.int t1), .val (.int o0), .val (.int o1), .val (.int lo), .val (.int (0 : Int32)), .val (.ref tx), .val (.ref ex), .val (.ref b33), .val (.int (1 : Int32)), .val (.int (1 : Int32)), .val (.int (1 : Int32))] [(.int (1 : Int32))])
                    exact own_retN H58 hx hlk (t := .boolean) hret (by simp) (hb hby at_260) rfl (by decide) (by decide)
                  · skip
                    refine Go.of (fun _ => XS.icmpNo H58.here hx rfl (hb hby at_227) rfl (feq hc80).1) ?_
                    show Go p e below _ T57 (mkF m 230 #[.val (.int p0), .val (.int p1), .val (.int p2), .val (.int p3), .val (.int p4), .val (.int p5), .val (.int ki), .val (own_kind ki w0 w1 w2 w3 w4 w5), .val (.int lt), .val (.int t0), .val (.int t1), .val (.int o0), .val (.int o1), .val (.int lo), .val (.int (0 : Int32)), .val (.ref tx), .val (.ref ex), .val (.ref b33), .val (.int (own_want ki lt lo t0 t1 o0 o1)), .val (.int (1 : Int32)), .unset] [])
                    refine Go.of (fun _ => XS.iload H58.here hx rfl (hb hby at_230) rfl) ?_
                    show Go p e below _ T57 (mkF m 232 #[.val (.int p0), .val (.int p1), .val (.int p2), .val (.int p3), .val (.int p4), .val (.int p5), .val (.int ki), .val (own_kind ki w0 w1 w2 w3 w4 w5), .val (.int lt), .val (.int t0), .val (.int t1), .val (.int o0), .val (.int o1), .val (.int lo), .val (.int (0 : Int32)), .val (.ref tx), .val (.ref ex), .val (.ref b33), .val (.int (own_want ki lt lo t0 t1 o0 o1)), .val (.int (1 : Int32)), .unset] [(.int ki)])
                    refine Go.of (fun _ => XS.iconst H58.here hx rfl (hb hby at_232)) ?_
                    show Go p e below _ T57 (mkF m 233 #[.val (.int p0), .val (.int p1), .val (.int p2), .val (.int p3), .val (.int p4), .val (.int p5), .val (.int ki), .val (own_kind ki w0 w1 w2 w3 w4 w5), .val (.int lt), .val (.int t0), .val (.int t1), .val (.int o0), .val (.int o1), .val (.int lo), .val (.int (0 : Int32)), .val (.ref tx), .val (.ref ex), .val (.ref b33), .val (.int (own_want ki lt lo t0 t1 o0 o1)), .val (.int (1 : Int32)), .unset] [(.int (4 : Int32)), (.int ki)])
                    by_cases hc81 : ki = (4 : Int32)
                    · skip
                      refine Go.of (fun _ => XS.icmpNo H58.here hx rfl (hb hby at_233) rfl (teq hc81).2) ?_
                      show Go p e below _ T57 (mkF m 236 #[.val (.int p0), .val (.int p1), .val (.int p2), .val (.int p3), .val (.int p4), .val (.int p5), .val (.int ki), .val (own_kind ki w0 w1 w2 w3 w4 w5), .val (.int lt), .val (.int t0), .val (.int t1), .val (.int o0), .val (.int o1), .val (.int lo), .val (.int (0 : Int32)), .val (.ref tx), .val (.ref ex), .val (.ref b33), .val (.int (own_want ki lt lo t0 t1 o0 o1)), .val (.int (1 : Int32)), .unset] [])
                      refine Go.of (fun _ => XS.iload H58.here hx rfl (hb hby at_236) rfl) ?_
                      show Go p e below _ T57 (mkF m 238 #[.val (.int p0), .val (.int p1), .val (.int p2), .val (.int p3), .val (.int p4), .val (.int p5), .val (.int ki), .val (own_kind ki w0 w1 w2 w3 w4 w5), .val (.int lt), .val (.int t0), .val (.int t1), .val (.int o0), .val (.int o1), .val (.int lo), .val (.int (0 : Int32)), .val (.ref tx), .val (.ref ex), .val (.ref b33), .val (.int (own_want ki lt lo t0 t1 o0 o1)), .val (.int (1 : Int32)), .unset] [(.int (1 : Int32))])
                      refine Go.of (fun _ => XS.ifNo H58.here hx rfl (hb hby at_238) rfl ((if0 _ _).trans (feq (by decide : ¬ ((1 : Int32) = (0 : Int32)))).1)) ?_
                      show Go p e below _ T57 (mkF m 241 #[.val (.int p0), .val (.int p1), .val (.int p2), .val (.int p3), .val (.int p4), .val (.int p5), .val (.int ki), .val (own_kind ki w0 w1 w2 w3 w4 w5), .val (.int lt), .val (.int t0), .val (.int t1), .val (.int o0), .val (.int o1), .val (.int lo), .val (.int (0 : Int32)), .val (.ref tx), .val (.ref ex), .val (.ref b33), .val (.int (own_want ki lt lo t0 t1 o0 o1)), .val (.int (1 : Int32)), .unset] [])
                      refine Go.of (fun _ => XS.iconst H58.here hx rfl (hb hby at_241)) ?_
                      show Go p e below _ T57 (mkF m 242 #[.val (.int p0), .val (.int p1), .val (.int p2), .val (.int p3), .val (.int p4), .val (.int p5), .val (.int ki), .val (own_kind ki w0 w1 w2 w3 w4 w5), .val (.int lt), .val (.int t0), .val (.int t1), .val (.int o0), .val (.int o1), .val (.int lo), .val (.int (0 : Int32)), .val (.ref tx), .val (.ref ex), .val (.ref b33), .val (.int (own_want ki lt lo t0 t1 o0 o1)), .val (.int (1 : Int32)), .unset] [(.int (1 : Int32))])
                      refine Go.of (fun _ => XS.goto H58.here hx rfl (pc0 := 242) (pc' := 246) rfl (hb hby at_242) (by decide) (by decide)) ?_
                      show Go p e below _ T57 (mkF m 246 #[.val (.int p0), .val (.int p1), .val (.int p2), .val (.int p3), .val (.int p4), .val (.int p5), .val (.int ki), .val (own_kind ki w0 w1 w2 w3 w4 w5), .val (.int lt), .val (.int t0), .val (.int t1), .val (.int o0), .val (.int o1), .val (.int lo), .val (.int (0 : Int32)), .val (.ref tx), .val (.ref ex), .val (.ref b33), .val (.int (own_want ki lt lo t0 t1 o0 o1)), .val (.int (1 : Int32)), .unset] [(.int (1 : Int32))])
                      refine Go.of (fun _ => XS.istore H58.here hx rfl (hb hby at_246) rfl (l' := #[.val (.int p0), .val (.int p1), .val (.int p2), .val (.int p3), .val (.int p4), .val (.int p5), .val (.int ki), .val (own_kind ki w0 w1 w2 w3 w4 w5), .val (.int lt), .val (.int t0), .val (.int t1), .val (.int o0), .val (.int o1), .val (.int lo), .val (.int (0 : Int32)), .val (.ref tx), .val (.ref ex), .val (.ref b33), .val (.int (own_want ki lt lo t0 t1 o0 o1)), .val (.int (1 : Int32)), .val (.int (1 : Int32))]) rfl) ?_
                      show Go p e below _ T57 (mkF m 248 #[.val (.int p0), .val (.int p1), .val (.int p2), .val (.int p3), .val (.int p4), .val (.int p5), .val (.int ki), .val (own_kind ki w0 w1 w2 w3 w4 w5), .val (.int lt), .val (.int t0), .val (.int t1), .val (.int o0), .val (.int o1), .val (.int lo), .val (.int (0 : Int32)), .val (.ref tx), .val (.ref ex), .val (.ref b33), .val (.int (own_want ki lt lo t0 t1 o0 o1)), .val (.int (1 : Int32)), .val (.int (1 : Int32))] [])
                      refine Go.of (fun _ => XS.iload H58.here hx rfl (hb hby at_248) rfl) ?_
                      show Go p e below _ T57 (mkF m 250 #[.val (.int p0), .val (.int p1), .val (.int p2), .val (.int p3), .val (.int p4), .val (.int p5), .val (.int ki), .val (own_kind ki w0 w1 w2 w3 w4 w5), .val (.int lt), .val (.int t0), .val (.int t1), .val (.int o0), .val (.int o1), .val (.int lo), .val (.int (0 : Int32)), .val (.ref tx), .val (.ref ex), .val (.ref b33), .val (.int (own_want ki lt lo t0 t1 o0 o1)), .val (.int (1 : Int32)), .val (.int (1 : Int32))] [(.int (own_want ki lt lo t0 t1 o0 o1))])
                      refine Go.of (fun _ => XS.iload H58.here hx rfl (hb hby at_250) rfl) ?_
                      show Go p e below _ T57 (mkF m 252 #[.val (.int p0), .val (.int p1), .val (.int p2), .val (.int p3), .val (.int p4), .val (.int p5), .val (.int ki), .val (own_kind ki w0 w1 w2 w3 w4 w5), .val (.int lt), .val (.int t0), .val (.int t1), .val (.int o0), .val (.int o1), .val (.int lo), .val (.int (0 : Int32)), .val (.ref tx), .val (.ref ex), .val (.ref b33), .val (.int (own_want ki lt lo t0 t1 o0 o1)), .val (.int (1 : Int32)), .val (.int (1 : Int32))] [(.int (1 : Int32)), (.int (own_want ki lt lo t0 t1 o0 o1))])
                      rw [show (own_want ki lt lo t0 t1 o0 o1) = (1 : Int32) from if_pos ⟨(Or.inr hc81), ⟨hc65, ⟨(Or.inr hc75), (Or.inr hc79)⟩⟩⟩]
                      show Go p e below _ T57 (mkF m 252 #[.val (.int p0), .val (.int p1), .val (.int p2), .val (.int p3), .val (.int p4), .val (.int p5), .val (.int ki), .val (own_kind ki w0 w1 w2 w3 w4 w5), .val (.int lt), .val (.int t0), .val (.int t1), .val (.int o0), .val (.int o1), .val (.int lo), .val (.int (0 : Int32)), .val (.ref tx), .val (.ref ex), .val (.ref b33), .val (.int (1 : Int32)), .val (.int (1 : Int32)), .val (.int (1 : Int32))] [(.int (1 : Int32)), (.int (1 : Int32))])
                      refine Go.of (fun _ => XS.icmpNo H58.here hx rfl (hb hby at_252) rfl (teq (by decide : (1 : Int32) = (1 : Int32))).2) ?_
                      show Go p e below _ T57 (mkF m 255 #[.val (.int p0), .val (.int p1), .val (.int p2), .val (.int p3), .val (.int p4), .val (.int p5), .val (.int ki), .val (own_kind ki w0 w1 w2 w3 w4 w5), .val (.int lt), .val (.int t0), .val (.int t1), .val (.int o0), .val (.int o1), .val (.int lo), .val (.int (0 : Int32)), .val (.ref tx), .val (.ref ex), .val (.ref b33), .val (.int (1 : Int32)), .val (.int (1 : Int32)), .val (.int (1 : Int32))] [])
                      refine Go.of (fun _ => XS.iconst H58.here hx rfl (hb hby at_255)) ?_
                      show Go p e below _ T57 (mkF m 256 #[.val (.int p0), .val (.int p1), .val (.int p2), .val (.int p3), .val (.int p4), .val (.int p5), .val (.int ki), .val (own_kind ki w0 w1 w2 w3 w4 w5), .val (.int lt), .val (.int t0), .val (.int t1), .val (.int o0), .val (.int o1), .val (.int lo), .val (.int (0 : Int32)), .val (.ref tx), .val (.ref ex), .val (.ref b33), .val (.int (1 : Int32)), .val (.int (1 : Int32)), .val (.int (1 : Int32))] [(.int (1 : Int32))])
                      refine Go.of (fun _ => XS.goto H58.here hx rfl (pc0 := 256) (pc' := 260) rfl (hb hby at_256) (by decide) (by decide)) ?_
                      show Go p e below _ T57 (mkF m 260 #[.val (.int p0), .val (.int p1), .val (.int p2), .val (.int p3), .val (.int p4), .val (.int p5), .val (.int ki), .val (own_kind ki w0 w1 w2 w3 w4 w5), .val (.int lt), .val (.int t0), .val (.int t1), .val (.int o0), .val (.int o1), .val (.int lo), .val (.int (0 : Int32)), .val (.ref tx), .val (.ref ex), .val (.ref b33), .val (.int (1 : Int32)), .val (.int (1 : Int32)), .val (.int (1 : Int32))] [(.int (1 : Int32))])
                      exact own_retN H58 hx hlk (t := .boolean) hret (by simp) (hb hby at_260) rfl (by decide) (by decide)
                    · skip
                      refine Go.of (fun _ => XS.icmpYes H58.here hx rfl (pc0 := 233) (pc' := 245) rfl (hb hby at_233) rfl (feq hc81).2 (by decide) (by decide)) ?_
                      show Go p e below _ T57 (mkF m 245 #[.val (.int p0), .val (.int p1), .val (.int p2), .val (.int p3), .val (.int p4), .val (.int p5), .val (.int ki), .val (own_kind ki w0 w1 w2 w3 w4 w5), .val (.int lt), .val (.int t0), .val (.int t1), .val (.int o0), .val (.int o1), .val (.int lo), .val (.int (0 : Int32)), .val (.ref tx), .val (.ref ex), .val (.ref b33), .val (.int (own_want ki lt lo t0 t1 o0 o1)), .val (.int (1 : Int32)), .unset] [])
                      refine Go.of (fun _ => XS.iconst H58.here hx rfl (hb hby at_245)) ?_
                      show Go p e below _ T57 (mkF m 246 #[.val (.int p0), .val (.int p1), .val (.int p2), .val (.int p3), .val (.int p4), .val (.int p5), .val (.int ki), .val (own_kind ki w0 w1 w2 w3 w4 w5), .val (.int lt), .val (.int t0), .val (.int t1), .val (.int o0), .val (.int o1), .val (.int lo), .val (.int (0 : Int32)), .val (.ref tx), .val (.ref ex), .val (.ref b33), .val (.int (own_want ki lt lo t0 t1 o0 o1)), .val (.int (1 : Int32)), .unset] [(.int (0 : Int32))])
                      refine Go.of (fun _ => XS.istore H58.here hx rfl (hb hby at_246) rfl (l' := #[.val (.int p0), .val (.int p1), .val (.int p2), .val (.int p3), .val (.int p4), .val (.int p5), .val (.int ki), .val (own_kind ki w0 w1 w2 w3 w4 w5), .val (.int lt), .val (.int t0), .val (.int t1), .val (.int o0), .val (.int o1), .val (.int lo), .val (.int (0 : Int32)), .val (.ref tx), .val (.ref ex), .val (.ref b33), .val (.int (own_want ki lt lo t0 t1 o0 o1)), .val (.int (1 : Int32)), .val (.int (0 : Int32))]) rfl) ?_
                      show Go p e below _ T57 (mkF m 248 #[.val (.int p0), .val (.int p1), .val (.int p2), .val (.int p3), .val (.int p4), .val (.int p5), .val (.int ki), .val (own_kind ki w0 w1 w2 w3 w4 w5), .val (.int lt), .val (.int t0), .val (.int t1), .val (.int o0), .val (.int o1), .val (.int lo), .val (.int (0 : Int32)), .val (.ref tx), .val (.ref ex), .val (.ref b33), .val (.int (own_want ki lt lo t0 t1 o0 o1)), .val (.int (1 : Int32)), .val (.int (0 : Int32))] [])
                      refine Go.of (fun _ => XS.iload H58.here hx rfl (hb hby at_248) rfl) ?_
                      show Go p e below _ T57 (mkF m 250 #[.val (.int p0), .val (.int p1), .val (.int p2), .val (.int p3), .val (.int p4), .val (.int p5), .val (.int ki), .val (own_kind ki w0 w1 w2 w3 w4 w5), .val (.int lt), .val (.int t0), .val (.int t1), .val (.int o0), .val (.int o1), .val (.int lo), .val (.int (0 : Int32)), .val (.ref tx), .val (.ref ex), .val (.ref b33), .val (.int (own_want ki lt lo t0 t1 o0 o1)), .val (.int (1 : Int32)), .val (.int (0 : Int32))] [(.int (own_want ki lt lo t0 t1 o0 o1))])
                      refine Go.of (fun _ => XS.iload H58.here hx rfl (hb hby at_250) rfl) ?_
                      show Go p e below _ T57 (mkF m 252 #[.val (.int p0), .val (.int p1), .val (.int p2), .val (.int p3), .val (.int p4), .val (.int p5), .val (.int ki), .val (own_kind ki w0 w1 w2 w3 w4 w5), .val (.int lt), .val (.int t0), .val (.int t1), .val (.int o0), .val (.int o1), .val (.int lo), .val (.int (0 : Int32)), .val (.ref tx), .val (.ref ex), .val (.ref b33), .val (.int (own_want ki lt lo t0 t1 o0 o1)), .val (.int (1 : Int32)), .val (.int (0 : Int32))] [(.int (0 : Int32)), (.int (own_want ki lt lo t0 t1 o0 o1))])
                      rw [show (own_want ki lt lo t0 t1 o0 o1) = (0 : Int32) from if_neg (fun q => (fun q => q.elim hc80 hc81) q.1)]
                      show Go p e below _ T57 (mkF m 252 #[.val (.int p0), .val (.int p1), .val (.int p2), .val (.int p3), .val (.int p4), .val (.int p5), .val (.int ki), .val (own_kind ki w0 w1 w2 w3 w4 w5), .val (.int lt), .val (.int t0), .val (.int t1), .val (.int o0), .val (.int o1), .val (.int lo), .val (.int (0 : Int32)), .val (.ref tx), .val (.ref ex), .val (.ref b33), .val (.int (0 : Int32)), .val (.int (1 : Int32)), .val (.int (0 : Int32))] [(.int (0 : Int32)), (.int (0 : Int32))])
                      refine Go.of (fun _ => XS.icmpNo H58.here hx rfl (hb hby at_252) rfl (teq (by decide : (0 : Int32) = (0 : Int32))).2) ?_
                      show Go p e below _ T57 (mkF m 255 #[.val (.int p0), .val (.int p1), .val (.int p2), .val (.int p3), .val (.int p4), .val (.int p5), .val (.int ki), .val (own_kind ki w0 w1 w2 w3 w4 w5), .val (.int lt), .val (.int t0), .val (.int t1), .val (.int o0), .val (.int o1), .val (.int lo), .val (.int (0 : Int32)), .val (.ref tx), .val (.ref ex), .val (.ref b33), .val (.int (0 : Int32)), .val (.int (1 : Int32)), .val (.int (0 : Int32))] [])
                      refine Go.of (fun _ => XS.iconst H58.here hx rfl (hb hby at_255)) ?_
                      show Go p e below _ T57 (mkF m 256 #[.val (.int p0), .val (.int p1), .val (.int p2), .val (.int p3), .val (.int p4), .val (.int p5), .val (.int ki), .val (own_kind ki w0 w1 w2 w3 w4 w5), .val (.int lt), .val (.int t0), .val (.int t1), .val (.int o0), .val (.int o1), .val (.int lo), .val (.int (0 : Int32)), .val (.ref tx), .val (.ref ex), .val (.ref b33), .val (.int (0 : Int32)), .val (.int (1 : Int32)), .val (.int (0 : Int32))] [(.int (1 : Int32))])
                      refine Go.of (fun _ => XS.goto H58.here hx rfl (pc0 := 256) (pc' := 260) rfl (hb hby at_256) (by decide) (by decide)) ?_
                      show Go p e below _ T57 (mkF m 260 #[.val (.int p0), .val (.int p1), .val (.int p2), .val (.int p3), .val (.int p4), .val (.int p5), .val (.int ki), .val (own_kind ki w0 w1 w2 w3 w4 w5), .val (.int lt), .val (.int t0), .val (.int t1), .val (.int o0), .val (.int o1), .val (.int lo), .val (.int (0 : Int32)), .val (.ref tx), .val (.ref ex), .val (.ref b33), .val (.int (0 : Int32)), .val (.int (1 : Int32)), .val (.int (0 : Int32))] [(.int (1 : Int32))])
                      exact own_retN H58 hx hlk (t := .boolean) hret (by simp) (hb hby at_260) rfl (by decide) (by decide)
                · skip
                  refine Go.of (fun _ => XS.icmpYes H58.here hx rfl (pc0 := 214) (pc' := 221) rfl (hb hby at_214) rfl (feq hc79).2 (by decide) (by decide)) ?_
                  show Go p e below _ T57 (mkF m 221 #[.val (.int p0), .val (.int p1), .val (.int p2), .val (.int p3), .val (.int p4), .val (.int p5), .val (.int ki), .val (own_kind ki w0 w1 w2 w3 w4 w5), .val (.int lt), .val (.int t0), .val (.int t1), .val (.int o0), .val (.int o1), .val (.int lo), .val (.int (0 : Int32)), .val (.ref tx), .val (.ref ex), .val (.ref b33), .val (.int (own_want ki lt lo t0 t1 o0 o1)), .unset, .unset] [])
                  refine Go.of (fun _ => XS.iconst H58.here hx rfl (hb hby at_221)) ?_
                  show Go p e below _ T57 (mkF m 222 #[.val (.int p0), .val (.int p1), .val (.int p2), .val (.int p3), .val (.int p4), .val (.int p5), .val (.int ki), .val (own_kind ki w0 w1 w2 w3 w4 w5), .val (.int lt), .val (.int t0), .val (.int t1), .val (.int o0), .val (.int o1), .val (.int lo), .val (.int (0 : Int32)), .val (.ref tx), .val (.ref ex), .val (.ref b33), .val (.int (own_want ki lt lo t0 t1 o0 o1)), .unset, .unset] [(.int (0 : Int32))])
                  refine Go.of (fun _ => XS.istore H58.here hx rfl (hb hby at_222) rfl (l' := #[.val (.int p0), .val (.int p1), .val (.int p2), .val (.int p3), .val (.int p4), .val (.int p5), .val (.int ki), .val (own_kind ki w0 w1 w2 w3 w4 w5), .val (.int lt), .val (.int t0), .val (.int t1), .val (.int o0), .val (.int o1), .val (.int lo), .val (.int (0 : Int32)), .val (.ref tx), .val (.ref ex), .val (.ref b33), .val (.int (own_want ki lt lo t0 t1 o0 o1)), .val (.int (0 : Int32)), .unset]) rfl) ?_
                  show Go p e below _ T57 (mkF m 224 #[.val (.int p0), .val (.int p1), .val (.int p2), .val (.int p3), .val (.int p4), .val (.int p5), .val (.int ki), .val (own_kind ki w0 w1 w2 w3 w4 w5), .val (.int lt), .val (.int t0), .val (.int t1), .val (.int o0), .val (.int o1), .val (.int lo), .val (.int (0 : Int32)), .val (.ref tx), .val (.ref ex), .val (.ref b33), .val (.int (own_want ki lt lo t0 t1 o0 o1)), .val (.int (0 : Int32)), .unset] [])
                  refine Go.of (fun _ => XS.iload H58.here hx rfl (hb hby at_224) rfl) ?_
                  show Go p e below _ T57 (mkF m 226 #[.val (.int p0), .val (.int p1), .val (.int p2), .val (.int p3), .val (.int p4), .val (.int p5), .val (.int ki), .val (own_kind ki w0 w1 w2 w3 w4 w5), .val (.int lt), .val (.int t0), .val (.int t1), .val (.int o0), .val (.int o1), .val (.int lo), .val (.int (0 : Int32)), .val (.ref tx), .val (.ref ex), .val (.ref b33), .val (.int (own_want ki lt lo t0 t1 o0 o1)), .val (.int (0 : Int32)), .unset] [(.int ki)])
                  refine Go.of (fun _ => XS.iconst H58.here hx rfl (hb hby at_226)) ?_
                  show Go p e below _ T57 (mkF m 227 #[.val (.int p0), .val (.int p1), .val (.int p2), .val (.int p3), .val (.int p4), .val (.int p5), .val (.int ki), .val (own_kind ki w0 w1 w2 w3 w4 w5), .val (.int lt), .val (.int t0), .val (.int t1), .val (.int o0), .val (.int o1), .val (.int lo), .val (.int (0 : Int32)), .val (.ref tx), .val (.ref ex), .val (.ref b33), .val (.int (own_want ki lt lo t0 t1 o0 o1)), .val (.int (0 : Int32)), .unset] [(.int (1 : Int32)), (.int ki)])
                  by_cases hc82 : ki = (1 : Int32)
                  · skip
                    refine Go.of (fun _ => XS.icmpYes H58.here hx rfl (pc0 := 227) (pc' := 236) rfl (hb hby at_227) rfl (teq hc82).1 (by decide) (by decide)) ?_
                    show Go p e below _ T57 (mkF m 236 #[.val (.int p0), .val (.int p1), .val (.int p2), .val (.int p3), .val (.int p4), .val (.int p5), .val (.int ki), .val (own_kind ki w0 w1 w2 w3 w4 w5), .val (.int lt), .val (.int t0), .val (.int t1), .val (.int o0), .val (.int o1), .val (.int lo), .val (.int (0 : Int32)), .val (.ref tx), .val (.ref ex), .val (.ref b33), .val (.int (own_want ki lt lo t0 t1 o0 o1)), .val (.int (0 : Int32)), .unset] [])
                    refine Go.of (fun _ => XS.iload H58.here hx rfl (hb hby at_236) rfl) ?_
                    show Go p e below _ T57 (mkF m 238 #[.val (.int p0), .val (.int p1), .val (.int p2), .val (.int p3), .val (.int p4), .val (.int p5), .val (.int ki), .val (own_kind ki w0 w1 w2 w3 w4 w5), .val (.int lt), .val (.int t0), .val (.int t1), .val (.int o0), .val (.int o1), .val (.int lo), .val (.int (0 : Int32)), .val (.ref tx), .val (.ref ex), .val (.ref b33), .val (.int (own_want ki lt lo t0 t1 o0 o1)), .val (.int (0 : Int32)), .unset] [(.int (0 : Int32))])
                    refine Go.of (fun _ => XS.ifYes H58.here hx rfl (pc0 := 238) (pc' := 245) rfl (hb hby at_238) rfl ((if0 _ _).trans (teq (by decide : (0 : Int32) = (0 : Int32))).1) (by decide) (by decide)) ?_
                    show Go p e below _ T57 (mkF m 245 #[.val (.int p0), .val (.int p1), .val (.int p2), .val (.int p3), .val (.int p4), .val (.int p5), .val (.int ki), .val (own_kind ki w0 w1 w2 w3 w4 w5), .val (.int lt), .val (.int t0), .val (.int t1), .val (.int o0), .val (.int o1), .val (.int lo), .val (.int (0 : Int32)), .val (.ref tx), .val (.ref ex), .val (.ref b33), .val (.int (own_want ki lt lo t0 t1 o0 o1)), .val (.int (0 : Int32)), .unset] [])
                    refine Go.of (fun _ => XS.iconst H58.here hx rfl (hb hby at_245)) ?_
                    show Go p e below _ T57 (mkF m 246 #[.val (.int p0), .val (.int p1), .val (.int p2), .val (.int p3), .val (.int p4), .val (.int p5), .val (.int ki), .val (own_kind ki w0 w1 w2 w3 w4 w5), .val (.int lt), .val (.int t0), .val (.int t1), .val (.int o0), .val (.int o1), .val (.int lo), .val (.int (0 : Int32)), .val (.ref tx), .val (.ref ex), .val (.ref b33), .val (.int (own_want ki lt lo t0 t1 o0 o1)), .val (.int (0 : Int32)), .unset] [(.int (0 : Int32))])
                    refine Go.of (fun _ => XS.istore H58.here hx rfl (hb hby at_246) rfl (l' := #[.val (.int p0), .val (.int p1), .val (.int p2), .val (.int p3), .val (.int p4), .val (.int p5), .val (.int ki), .val (own_kind ki w0 w1 w2 w3 w4 w5), .val (.int lt), .val (.int t0), .val (.int t1), .val (.int o0), .val (.int o1), .val (.int lo), .val (.int (0 : Int32)), .val (.ref tx), .val (.ref ex), .val (.ref b33), .val (.int (own_want ki lt lo t0 t1 o0 o1)), .val (.int (0 : Int32)), .val (.int (0 : Int32))]) rfl) ?_
                    show Go p e below _ T57 (mkF m 248 #[.val (.int p0), .val (.int p1), .val (.int p2), .val (.int p3), .val (.int p4), .val (.int p5), .val (.int ki), .val (own_kind ki w0 w1 w2 w3 w4 w5), .val (.int lt), .val (.int t0), .val (.int t1), .val (.int o0), .val (.int o1), .val (.int lo), .val (.int (0 : Int32)), .val (.ref tx), .val (.ref ex), .val (.ref b33), .val (.int (own_want ki lt lo t0 t1 o0 o1)), .val (.int (0 : Int32)), .val (.int (0 : Int32))] [])
                    refine Go.of (fun _ => XS.iload H58.here hx rfl (hb hby at_248) rfl) ?_
                    show Go p e below _ T57 (mkF m 250 #[.val (.int p0), .val (.int p1), .val (.int p2), .val (.int p3), .val (.int p4), .val (.int p5), .val (.int ki), .val (own_kind ki w0 w1 w2 w3 w4 w5), .val (.int lt), .val (.int t0), .val (.int t1), .val (.int o0), .val (.int o1), .val (.int lo), .val (.int (0 : Int32)), .val (.ref tx), .val (.ref ex), .val (.ref b33), .val (.int (own_want ki lt lo t0 t1 o0 o1)), .val (.int (0 : Int32)), .val (.int (0 : Int32))] [(.int (own_want ki lt lo t0 t1 o0 o1))])
                    refine Go.of (fun _ => XS.iload H58.here hx rfl (hb hby at_250) rfl) ?_
                    show Go p e below _ T57 (mkF m 252 #[.val (.int p0), .val (.int p1), .val (.int p2), .val (.int p3), .val (.int p4), .val (.int p5), .val (.int ki), .val (own_kind ki w0 w1 w2 w3 w4 w5), .val (.int lt), .val (.int t0), .val (.int t1), .val (.int o0), .val (.int o1), .val (.int lo), .val (.int (0 : Int32)), .val (.ref tx), .val (.ref ex), .val (.ref b33), .val (.int (own_want ki lt lo t0 t1 o0 o1)), .val (.int (0 : Int32)), .val (.int (0 : Int32))] [(.int (0 : Int32)), (.int (own_want ki lt lo t0 t1 o0 o1))])
                    rw [show (own_want ki lt lo t0 t1 o0 o1) = (0 : Int32) from if_neg (fun q => (fun q => (fun q => (fun q => q.elim hc76 hc79) q.2) q.2) q.2)]
                    show Go p e below _ T57 (mkF m 252 #[.val (.int p0), .val (.int p1), .val (.int p2), .val (.int p3), .val (.int p4), .val (.int p5), .val (.int ki), .val (own_kind ki w0 w1 w2 w3 w4 w5), .val (.int lt), .val (.int t0), .val (.int t1), .val (.int o0), .val (.int o1), .val (.int lo), .val (.int (0 : Int32)), .val (.ref tx), .val (.ref ex), .val (.ref b33), .val (.int (0 : Int32)), .val (.int (0 : Int32)), .val (.int (0 : Int32))] [(.int (0 : Int32)), (.int (0 : Int32))])
                    refine Go.of (fun _ => XS.icmpNo H58.here hx rfl (hb hby at_252) rfl (teq (by decide : (0 : Int32) = (0 : Int32))).2) ?_
                    show Go p e below _ T57 (mkF m 255 #[.val (.int p0), .val (.int p1), .val (.int p2), .val (.int p3), .val (.int p4), .val (.int p5), .val (.int ki), .val (own_kind ki w0 w1 w2 w3 w4 w5), .val (.int lt), .val (.int t0), .val (.int t1), .val (.int o0), .val (.int o1), .val (.int lo), .val (.int (0 : Int32)), .val (.ref tx), .val (.ref ex), .val (.ref b33), .val (.int (0 : Int32)), .val (.int (0 : Int32)), .val (.int (0 : Int32))] [])
                    refine Go.of (fun _ => XS.iconst H58.here hx rfl (hb hby at_255)) ?_
                    show Go p e below _ T57 (mkF m 256 #[.val (.int p0), .val (.int p1), .val (.int p2), .val (.int p3), .val (.int p4), .val (.int p5), .val (.int ki), .val (own_kind ki w0 w1 w2 w3 w4 w5), .val (.int lt), .val (.int t0), .val (.int t1), .val (.int o0), .val (.int o1), .val (.int lo), .val (.int (0 : Int32)), .val (.ref tx), .val (.ref ex), .val (.ref b33), .val (.int (0 : Int32)), .val (.int (0 : Int32)), .val (.int (0 : Int32))] [(.int (1 : Int32))])
                    refine Go.of (fun _ => XS.goto H58.here hx rfl (pc0 := 256) (pc' := 260) rfl (hb hby at_256) (by decide) (by decide)) ?_
                    show Go p e below _ T57 (mkF m 260 #[.val (.int p0), .val (.int p1), .val (.int p2), .val (.int p3), .val (.int p4), .val (.int p5), .val (.int ki), .val (own_kind ki w0 w1 w2 w3 w4 w5), .val (.int lt), .val (.int t0), .val (.int t1), .val (.int o0), .val (.int o1), .val (.int lo), .val (.int (0 : Int32)), .val (.ref tx), .val (.ref ex), .val (.ref b33), .val (.int (0 : Int32)), .val (.int (0 : Int32)), .val (.int (0 : Int32))] [(.int (1 : Int32))])
                    exact own_retN H58 hx hlk (t := .boolean) hret (by simp) (hb hby at_260) rfl (by decide) (by decide)
                  · skip
                    refine Go.of (fun _ => XS.icmpNo H58.here hx rfl (hb hby at_227) rfl (feq hc82).1) ?_
                    show Go p e below _ T57 (mkF m 230 #[.val (.int p0), .val (.int p1), .val (.int p2), .val (.int p3), .val (.int p4), .val (.int p5), .val (.int ki), .val (own_kind ki w0 w1 w2 w3 w4 w5), .val (.int lt), .val (.int t0), .val (.int t1), .val (.int o0), .val (.int o1), .val (.int lo), .val (.int (0 : Int32)), .val (.ref tx), .val (.ref ex), .val (.ref b33), .val (.int (own_want ki lt lo t0 t1 o0 o1)), .val (.int (0 : Int32)), .unset] [])
                    refine Go.of (fun _ => XS.iload H58.here hx rfl (hb hby at_230) rfl) ?_
                    show Go p e below _ T57 (mkF m 232 #[.val (.int p0), .val (.int p1), .val (.int p2), .val (.int p3), .val (.int p4), .val (.int p5), .val (.int ki), .val (own_kind ki w0 w1 w2 w3 w4 w5), .val (.int lt), .val (.int t0), .val (.int t1), .val (.int o0), .val (.int o1), .val (.int lo), .val (.int (0 : Int32)), .val (.ref tx), .val (.ref ex), .val (.ref b33), .val (.int (own_want ki lt lo t0 t1 o0 o1)), .val (.int (0 : Int32)), .unset] [(.int ki)])
                    refine Go.of (fun _ => XS.iconst H58.here hx rfl (hb hby at_232)) ?_
                    show Go p e below _ T57 (mkF m 233 #[.val (.int p0), .val (.int p1), .val (.int p2), .val (.int p3), .val (.int p4), .val (.int p5), .val (.int ki), .val (own_kind ki w0 w1 w2 w3 w4 w5), .val (.int lt), .val (.int t0), .val (.int t1), .val (.int o0), .val (.int o1), .val (.int lo), .val (.int (0 : Int32)), .val (.ref tx), .val (.ref ex), .val (.ref b33), .val (.int (own_want ki lt lo t0 t1 o0 o1)), .val (.int (0 : Int32)), .unset] [(.int (4 : Int32)), (.int ki)])
                    by_cases hc83 : ki = (4 : Int32)
                    · skip
                      refine Go.of (fun _ => XS.icmpNo H58.here hx rfl (hb hby at_233) rfl (teq hc83).2) ?_
                      show Go p e below _ T57 (mkF m 236 #[.val (.int p0), .val (.int p1), .val (.int p2), .val (.int p3), .val (.int p4), .val (.int p5), .val (.int ki), .val (own_kind ki w0 w1 w2 w3 w4 w5), .val (.int lt), .val (.int t0), .val (.int t1), .val (.int o0), .val (.int o1), .val (.int lo), .val (.int (0 : Int32)), .val (.ref tx), .val (.ref ex), .val (.ref b33), .val (.int (own_want ki lt lo t0 t1 o0 o1)), .val (.int (0 : Int32)), .unset] [])
                      refine Go.of (fun _ => XS.iload H58.here hx rfl (hb hby at_236) rfl) ?_
                      show Go p e below _ T57 (mkF m 238 #[.val (.int p0), .val (.int p1), .val (.int p2), .val (.int p3), .val (.int p4), .val (.int p5), .val (.int ki), .val (own_kind ki w0 w1 w2 w3 w4 w5), .val (.int lt), .val (.int t0), .val (.int t1), .val (.int o0), .val (.int o1), .val (.int lo), .val (.int (0 : Int32)), .val (.ref tx), .val (.ref ex), .val (.ref b33), .val (.int (own_want ki lt lo t0 t1 o0 o1)), .val (.int (0 : Int32)), .unset] [(.int (0 : Int32))])
                      refine Go.of (fun _ => XS.ifYes H58.here hx rfl (pc0 := 238) (pc' := 245) rfl (hb hby at_238) rfl ((if0 _ _).trans (teq (by decide : (0 : Int32) = (0 : Int32))).1) (by decide) (by decide)) ?_
                      show Go p e below _ T57 (mkF m 245 #[.val (.int p0), .val (.int p1), .val (.int p2), .val (.int p3), .val (.int p4), .val (.int p5), .val (.int ki), .val (own_kind ki w0 w1 w2 w3 w4 w5), .val (.int lt), .val (.int t0), .val (.int t1), .val (.int o0), .val (.int o1), .val (.int lo), .val (.int (0 : Int32)), .val (.ref tx), .val (.ref ex), .val (.ref b33), .val (.int (own_want ki lt lo t0 t1 o0 o1)), .val (.int (0 : Int32)), .unset] [])
                      refine Go.of (fun _ => XS.iconst H58.here hx rfl (hb hby at_245)) ?_
                      show Go p e below _ T57 (mkF m 246 #[.val (.int p0), .val (.int p1), .val (.int p2), .val (.int p3), .val (.int p4), .val (.int p5), .val (.int ki), .val (own_kind ki w0 w1 w2 w3 w4 w5), .val (.int lt), .val (.int t0), .val (.int t1), .val (.int o0), .val (.int o1), .val (.int lo), .val (.int (0 : Int32)), .val (.ref tx), .val (.ref ex), .val (.ref b33), .val (.int (own_want ki lt lo t0 t1 o0 o1)), .val (.int (0 : Int32)), .unset] [(.int (0 : Int32))])
                      refine Go.of (fun _ => XS.istore H58.here hx rfl (hb hby at_246) rfl (l' := #[.val (.int p0), .val (.int p1), .val (.int p2), .val (.int p3), .val (.int p4), .val (.int p5), .val (.int ki), .val (own_kind ki w0 w1 w2 w3 w4 w5), .val (.int lt), .val (.int t0), .val (.int t1), .val (.int o0), .val (.int o1), .val (.int lo), .val (.int (0 : Int32)), .val (.ref tx), .val (.ref ex), .val (.ref b33), .val (.int (own_want ki lt lo t0 t1 o0 o1)), .val (.int (0 : Int32)), .val (.int (0 : Int32))]) rfl) ?_
                      show Go p e below _ T57 (mkF m 248 #[.val (.int p0), .val (.int p1), .val (.int p2), .val (.int p3), .val (.int p4), .val (.int p5), .val (.int ki), .val (own_kind ki w0 w1 w2 w3 w4 w5), .val (.int lt), .val (.int t0), .val (.int t1), .val (.int o0), .val (.int o1), .val (.int lo), .val (.int (0 : Int32)), .val (.ref tx), .val (.ref ex), .val (.ref b33), .val (.int (own_want ki lt lo t0 t1 o0 o1)), .val (.int (0 : Int32)), .val (.int (0 : Int32))] [])
                      refine Go.of (fun _ => XS.iload H58.here hx rfl (hb hby at_248) rfl) ?_
                      show Go p e below _ T57 (mkF m 250 #[.val (.int p0), .val (.int p1), .val (.int p2), .val (.int p3), .val (.int p4), .val (.int p5), .val (.int ki), .val (own_kind ki w0 w1 w2 w3 w4 w5), .val (.int lt), .val (.int t0), .val (.int t1), .val (.int o0), .val (.int o1), .val (.int lo), .val (.int (0 : Int32)), .val (.ref tx), .val (.ref ex), .val (.ref b33), .val (.int (own_want ki lt lo t0 t1 o0 o1)), .val (.int (0 : Int32)), .val (.int (0 : Int32))] [(.int (own_want ki lt lo t0 t1 o0 o1))])
                      refine Go.of (fun _ => XS.iload H58.here hx rfl (hb hby at_250) rfl) ?_
                      show Go p e below _ T57 (mkF m 252 #[.val (.int p0), .val (.int p1), .val (.int p2), .val (.int p3), .val (.int p4), .val (.int p5), .val (.int ki), .val (own_kind ki w0 w1 w2 w3 w4 w5), .val (.int lt), .val (.int t0), .val (.int t1), .val (.int o0), .val (.int o1), .val (.int lo), .val (.int (0 : Int32)), .val (.ref tx), .val (.ref ex), .val (.ref b33), .val (.int (own_want ki lt lo t0 t1 o0 o1)), .val (.int (0 : Int32)), .val (.int (0 : Int32))] [(.int (0 : Int32)), (.int (own_want ki lt lo t0 t1 o0 o1))])
                      rw [show (own_want ki lt lo t0 t1 o0 o1) = (0 : Int32) from if_neg (fun q => (fun q => (fun q => (fun q => q.elim hc76 hc79) q.2) q.2) q.2)]
                      show Go p e below _ T57 (mkF m 252 #[.val (.int p0), .val (.int p1), .val (.int p2), .val (.int p3), .val (.int p4), .val (.int p5), .val (.int ki), .val (own_kind ki w0 w1 w2 w3 w4 w5), .val (.int lt), .val (.int t0), .val (.int t1), .val (.int o0), .val (.int o1), .val (.int lo), .val (.int (0 : Int32)), .val (.ref tx), .val (.ref ex), .val (.ref b33), .val (.int (0 : Int32)), .val (.int (0 : Int32)), .val (.int (0 : Int32))] [(.int (0 : Int32)), (.int (0 : Int32))])
                      refine Go.of (fun _ => XS.icmpNo H58.here hx rfl (hb hby at_252) rfl (teq (by decide : (0 : Int32) = (0 : Int32))).2) ?_
                      show Go p e below _ T57 (mkF m 255 #[.val (.int p0), .val (.int p1), .val (.int p2), .val (.int p3), .val (.int p4), .val (.int p5), .val (.int ki), .val (own_kind ki w0 w1 w2 w3 w4 w5), .val (.int lt), .val (.int t0), .val (.int t1), .val (.int o0), .val (.int o1), .val (.int lo), .val (.int (0 : Int32)), .val (.ref tx), .val (.ref ex), .val (.ref b33), .val (.int (0 : Int32)), .val (.int (0 : Int32)), .val (.int (0 : Int32))] [])
                      refine Go.of (fun _ => XS.iconst H58.here hx rfl (hb hby at_255)) ?_
                      show Go p e below _ T57 (mkF m 256 #[.val (.int p0), .val (.int p1), .val (.int p2), .val (.int p3), .val (.int p4), .val (.int p5), .val (.int ki), .val (own_kind ki w0 w1 w2 w3 w4 w5), .val (.int lt), .val (.int t0), .val (.int t1), .val (.int o0), .val (.int o1), .val (.int lo), .val (.int (0 : Int32)), .val (.ref tx), .val (.ref ex), .val (.ref b33), .val (.int (0 : Int32)), .val (.int (0 : Int32)), .val (.int (0 : Int32))] [(.int (1 : Int32))])
                      refine Go.of (fun _ => XS.goto H58.here hx rfl (pc0 := 256) (pc' := 260) rfl (hb hby at_256) (by decide) (by decide)) ?_
                      show Go p e below _ T57 (mkF m 260 #[.val (.int p0), .val (.int p1), .val (.int p2), .val (.int p3), .val (.int p4), .val (.int p5), .val (.int ki), .val (own_kind ki w0 w1 w2 w3 w4 w5), .val (.int lt), .val (.int t0), .val (.int t1), .val (.int o0), .val (.int o1), .val (.int lo), .val (.int (0 : Int32)), .val (.ref tx), .val (.ref ex), .val (.ref b33), .val (.int (0 : Int32)), .val (.int (0 : Int32)), .val (.int (0 : Int32))] [(.int (1 : Int32))])
                      exact own_retN H58 hx hlk (t := .boolean) hret (by simp) (hb hby at_260) rfl (by decide) (by decide)
                    · skip
                      refine Go.of (fun _ => XS.icmpYes H58.here hx rfl (pc0 := 233) (pc' := 245) rfl (hb hby at_233) rfl (feq hc83).2 (by decide) (by decide)) ?_
                      show Go p e below _ T57 (mkF m 245 #[.val (.int p0), .val (.int p1), .val (.int p2), .val (.int p3), .val (.int p4), .val (.int p5), .val (.int ki), .val (own_kind ki w0 w1 w2 w3 w4 w5), .val (.int lt), .val (.int t0), .val (.int t1), .val (.int o0), .val (.int o1), .val (.int lo), .val (.int (0 : Int32)), .val (.ref tx), .val (.ref ex), .val (.ref b33), .val (.int (own_want ki lt lo t0 t1 o0 o1)), .val (.int (0 : Int32)), .unset] [])
                      refine Go.of (fun _ => XS.iconst H58.here hx rfl (hb hby at_245)) ?_
                      show Go p e below _ T57 (mkF m 246 #[.val (.int p0), .val (.int p1), .val (.int p2), .val (.int p3), .val (.int p4), .val (.int p5), .val (.int ki), .val (own_kind ki w0 w1 w2 w3 w4 w5), .val (.int lt), .val (.int t0), .val (.int t1), .val (.int o0), .val (.int o1), .val (.int lo), .val (.int (0 : Int32)), .val (.ref tx), .val (.ref ex), .val (.ref b33), .val (.int (own_want ki lt lo t0 t1 o0 o1)), .val (.int (0 : Int32)), .unset] [(.int (0 : Int32))])
                      refine Go.of (fun _ => XS.istore H58.here hx rfl (hb hby at_246) rfl (l' := #[.val (.int p0), .val (.int p1), .val (.int p2), .val (.int p3), .val (.int p4), .val (.int p5), .val (.int ki), .val (own_kind ki w0 w1 w2 w3 w4 w5), .val (.int lt), .val (.int t0), .val (.int t1), .val (.int o0), .val (.int o1), .val (.int lo), .val (.int (0 : Int32)), .val (.ref tx), .val (.ref ex), .val (.ref b33), .val (.int (own_want ki lt lo t0 t1 o0 o1)), .val (.int (0 : Int32)), .val (.int (0 : Int32))]) rfl) ?_
                      show Go p e below _ T57 (mkF m 248 #[.val (.int p0), .val (.int p1), .val (.int p2), .val (.int p3), .val (.int p4), .val (.int p5), .val (.int ki), .val (own_kind ki w0 w1 w2 w3 w4 w5), .val (.int lt), .val (.int t0), .val (.int t1), .val (.int o0), .val (.int o1), .val (.int lo), .val (.int (0 : Int32)), .val (.ref tx), .val (.ref ex), .val (.ref b33), .val (.int (own_want ki lt lo t0 t1 o0 o1)), .val (.int (0 : Int32)), .val (.int (0 : Int32))] [])
                      refine Go.of (fun _ => XS.iload H58.here hx rfl (hb hby at_248) rfl) ?_
                      show Go p e below _ T57 (mkF m 250 #[.val (.int p0), .val (.int p1), .val (.int p2), .val (.int p3), .val (.int p4), .val (.int p5), .val (.int ki), .val (own_kind ki w0 w1 w2 w3 w4 w5), .val (.int lt), .val (.int t0), .val (.int t1), .val (.int o0), .val (.int o1), .val (.int lo), .val (.int (0 : Int32)), .val (.ref tx), .val (.ref ex), .val (.ref b33), .val (.int (own_want ki lt lo t0 t1 o0 o1)), .val (.int (0 : Int32)), .val (.int (0 : Int32))] [(.int (own_want ki lt lo t0 t1 o0 o1))])
                      refine Go.of (fun _ => XS.iload H58.here hx rfl (hb hby at_250) rfl) ?_
                      show Go p e below _ T57 (mkF m 252 #[.val (.int p0), .val (.int p1), .val (.int p2), .val (.int p3), .val (.int p4), .val (.int p5), .val (.int ki), .val (own_kind ki w0 w1 w2 w3 w4 w5), .val (.int lt), .val (.int t0), .val (.int t1), .val (.int o0), .val (.int o1), .val (.int lo), .val (.int (0 : Int32)), .val (.ref tx), .val (.ref ex), .val (.ref b33), .val (.int (own_want ki lt lo t0 t1 o0 o1)), .val (.int (0 : Int32)), .val (.int (0 : Int32))] [(.int (0 : Int32)), (.int (own_want ki lt lo t0 t1 o0 o1))])
                      rw [show (own_want ki lt lo t0 t1 o0 o1) = (0 : Int32) from if_neg (fun q => (fun q => q.elim hc82 hc83) q.1)]
                      show Go p e below _ T57 (mkF m 252 #[.val (.int p0), .val (.int p1), .val (.int p2), .val (.int p3), .val (.int p4), .val (.int p5), .val (.int ki), .val (own_kind ki w0 w1 w2 w3 w4 w5), .val (.int lt), .val (.int t0), .val (.int t1), .val (.int o0), .val (.int o1), .val (.int lo), .val (.int (0 : Int32)), .val (.ref tx), .val (.ref ex), .val (.ref b33), .val (.int (0 : Int32)), .val (.int (0 : Int32)), .val (.int (0 : Int32))] [(.int (0 : Int32)), (.int (0 : Int32))])
                      refine Go.of (fun _ => XS.icmpNo H58.here hx rfl (hb hby at_252) rfl (teq (by decide : (0 : Int32) = (0 : Int32))).2) ?_
                      show Go p e below _ T57 (mkF m 255 #[.val (.int p0), .val (.int p1), .val (.int p2), .val (.int p3), .val (.int p4), .val (.int p5), .val (.int ki), .val (own_kind ki w0 w1 w2 w3 w4 w5), .val (.int lt), .val (.int t0), .val (.int t1), .val (.int o0), .val (.int o1), .val (.int lo), .val (.int (0 : Int32)), .val (.ref tx), .val (.ref ex), .val (.ref b33), .val (.int (0 : Int32)), .val (.int (0 : Int32)), .val (.int (0 : Int32))] [])
                      refine Go.of (fun _ => XS.iconst H58.here hx rfl (hb hby at_255)) ?_
                      show Go p e below _ T57 (mkF m 256 #[.val (.int p0), .val (.int p1), .val (.int p2), .val (.int p3), .val (.int p4), .val (.int p5), .val (.int ki), .val (own_kind ki w0 w1 w2 w3 w4 w5), .val (.int lt), .val (.int t0), .val (.int t1), .val (.int o0), .val (.int o1), .val (.int lo), .val (.int (0 : Int32)), .val (.ref tx), .val (.ref ex), .val (.ref b33), .val (.int (0 : Int32)), .val (.int (0 : Int32)), .val (.int (0 : Int32))] [(.int (1 : Int32))])
                      refine Go.of (fun _ => XS.goto H58.here hx rfl (pc0 := 256) (pc' := 260) rfl (hb hby at_256) (by decide) (by decide)) ?_
                      show Go p e below _ T57 (mkF m 260 #[.val (.int p0), .val (.int p1), .val (.int p2), .val (.int p3), .val (.int p4), .val (.int p5), .val (.int ki), .val (own_kind ki w0 w1 w2 w3 w4 w5), .val (.int lt), .val (.int t0), .val (.int t1), .val (.int o0), .val (.int o1), .val (.int lo), .val (.int (0 : Int32)), .val (.ref tx), .val (.ref ex), .val (.ref b33), .val (.int (0 : Int32)), .val (.int (0 : Int32)), .val (.int (0 : Int32))] [(.int (1 : Int32))])
                      exact own_retN H58 hx hlk (t := .boolean) hret (by simp) (hb hby at_260) rfl (by decide) (by decide)
            · skip
              refine Go.of (fun _ => XS.icmpYes H58.here hx rfl (pc0 := 201) (pc' := 221) rfl (hb hby at_201) rfl (feq hc75).2 (by decide) (by decide)) ?_
              show Go p e below _ T57 (mkF m 221 #[.val (.int p0), .val (.int p1), .val (.int p2), .val (.int p3), .val (.int p4), .val (.int p5), .val (.int ki), .val (own_kind ki w0 w1 w2 w3 w4 w5), .val (.int lt), .val (.int t0), .val (.int t1), .val (.int o0), .val (.int o1), .val (.int lo), .val (.int (0 : Int32)), .val (.ref tx), .val (.ref ex), .val (.ref b33), .val (.int (own_want ki lt lo t0 t1 o0 o1)), .unset, .unset] [])
              refine Go.of (fun _ => XS.iconst H58.here hx rfl (hb hby at_221)) ?_
              show Go p e below _ T57 (mkF m 222 #[.val (.int p0), .val (.int p1), .val (.int p2), .val (.int p3), .val (.int p4), .val (.int p5), .val (.int ki), .val (own_kind ki w0 w1 w2 w3 w4 w5), .val (.int lt), .val (.int t0), .val (.int t1), .val (.int o0), .val (.int o1), .val (.int lo), .val (.int (0 : Int32)), .val (.ref tx), .val (.ref ex), .val (.ref b33), .val (.int (own_want ki lt lo t0 t1 o0 o1)), .unset, .unset] [(.int (0 : Int32))])
              refine Go.of (fun _ => XS.istore H58.here hx rfl (hb hby at_222) rfl (l' := #[.val (.int p0), .val (.int p1), .val (.int p2), .val (.int p3), .val (.int p4), .val (.int p5), .val (.int ki), .val (own_kind ki w0 w1 w2 w3 w4 w5), .val (.int lt), .val (.int t0), .val (.int t1), .val (.int o0), .val (.int o1), .val (.int lo), .val (.int (0 : Int32)), .val (.ref tx), .val (.ref ex), .val (.ref b33), .val (.int (own_want ki lt lo t0 t1 o0 o1)), .val (.int (0 : Int32)), .unset]) rfl) ?_
              show Go p e below _ T57 (mkF m 224 #[.val (.int p0), .val (.int p1), .val (.int p2), .val (.int p3), .val (.int p4), .val (.int p5), .val (.int ki), .val (own_kind ki w0 w1 w2 w3 w4 w5), .val (.int lt), .val (.int t0), .val (.int t1), .val (.int o0), .val (.int o1), .val (.int lo), .val (.int (0 : Int32)), .val (.ref tx), .val (.ref ex), .val (.ref b33), .val (.int (own_want ki lt lo t0 t1 o0 o1)), .val (.int (0 : Int32)), .unset] [])
              refine Go.of (fun _ => XS.iload H58.here hx rfl (hb hby at_224) rfl) ?_
              show Go p e below _ T57 (mkF m 226 #[.val (.int p0), .val (.int p1), .val (.int p2), .val (.int p3), .val (.int p4), .val (.int p5), .val (.int ki), .val (own_kind ki w0 w1 w2 w3 w4 w5), .val (.int lt), .val (.int t0), .val (.int t1), .val (.int o0), .val (.int o1), .val (.int lo), .val (.int (0 : Int32)), .val (.ref tx), .val (.ref ex), .val (.ref b33), .val (.int (own_want ki lt lo t0 t1 o0 o1)), .val (.int (0 : Int32)), .unset] [(.int ki)])
              refine Go.of (fun _ => XS.iconst H58.here hx rfl (hb hby at_226)) ?_
              show Go p e below _ T57 (mkF m 227 #[.val (.int p0), .val (.int p1), .val (.int p2), .val (.int p3), .val (.int p4), .val (.int p5), .val (.int ki), .val (own_kind ki w0 w1 w2 w3 w4 w5), .val (.int lt), .val (.int t0), .val (.int t1), .val (.int o0), .val (.int o1), .val (.int lo), .val (.int (0 : Int32)), .val (.ref tx), .val (.ref ex), .val (.ref b33), .val (.int (own_want ki lt lo t0 t1 o0 o1)), .val (.int (0 : Int32)), .unset] [(.int (1 : Int32)), (.int ki)])
              by_cases hc84 : ki = (1 : Int32)
              · skip
                refine Go.of (fun _ => XS.icmpYes H58.here hx rfl (pc0 := 227) (pc' := 236) rfl (hb hby at_227) rfl (teq hc84).1 (by decide) (by decide)) ?_
                show Go p e below _ T57 (mkF m 236 #[.val (.int p0), .val (.int p1), .val (.int p2), .val (.int p3), .val (.int p4), .val (.int p5), .val (.int ki), .val (own_kind ki w0 w1 w2 w3 w4 w5), .val (.int lt), .val (.int t0), .val (.int t1), .val (.int o0), .val (.int o1), .val (.int lo), .val (.int (0 : Int32)), .val (.ref tx), .val (.ref ex), .val (.ref b33), .val (.int (own_want ki lt lo t0 t1 o0 o1)), .val (.int (0 : Int32)), .unset] [])
                refine Go.of (fun _ => XS.iload H58.here hx rfl (hb hby at_236) rfl) ?_
                show Go p e below _ T57 (mkF m 238 #[.val (.int p0), .val (.int p1), .val (.int p2), .val (.int p3), .val (.int p4), .val (.int p5), .val (.int ki), .val (own_kind ki w0 w1 w2 w3 w4 w5), .val (.int lt), .val (.int t0), .val (.int t1), .val (.int o0), .val (.int o1), .val (.int lo), .val (.int (0 : Int32)), .val (.ref tx), .val (.ref ex), .val (.ref b33), .val (.int (own_want ki lt lo t0 t1 o0 o1)), .val (.int (0 : Int32)), .unset] [(.int (0 : Int32))])
                refine Go.of (fun _ => XS.ifYes H58.here hx rfl (pc0 := 238) (pc' := 245) rfl (hb hby at_238) rfl ((if0 _ _).trans (teq (by decide : (0 : Int32) = (0 : Int32))).1) (by decide) (by decide)) ?_
                show Go p e below _ T57 (mkF m 245 #[.val (.int p0), .val (.int p1), .val (.int p2), .val (.int p3), .val (.int p4), .val (.int p5), .val (.int ki), .val (own_kind ki w0 w1 w2 w3 w4 w5), .val (.int lt), .val (.int t0), .val (.int t1), .val (.int o0), .val (.int o1), .val (.int lo), .val (.int (0 : Int32)), .val (.ref tx), .val (.ref ex), .val (.ref b33), .val (.int (own_want ki lt lo t0 t1 o0 o1)), .val (.int (0 : Int32)), .unset] [])
                refine Go.of (fun _ => XS.iconst H58.here hx rfl (hb hby at_245)) ?_
                show Go p e below _ T57 (mkF m 246 #[.val (.int p0), .val (.int p1), .val (.int p2), .val (.int p3), .val (.int p4), .val (.int p5), .val (.int ki), .val (own_kind ki w0 w1 w2 w3 w4 w5), .val (.int lt), .val (.int t0), .val (.int t1), .val (.int o0), .val (.int o1), .val (.int lo), .val (.int (0 : Int32)), .val (.ref tx), .val (.ref ex), .val (.ref b33), .val (.int (own_want ki lt lo t0 t1 o0 o1)), .val (.int (0 : Int32)), .unset] [(.int (0 : Int32))])
                refine Go.of (fun _ => XS.istore H58.here hx rfl (hb hby at_246) rfl (l' := #[.val (.int p0), .val (.int p1), .val (.int p2), .val (.int p3), .val (.int p4), .val (.int p5), .val (.int ki), .val (own_kind ki w0 w1 w2 w3 w4 w5), .val (.int lt), .val (.int t0), .val (.int t1), .val (.int o0), .val (.int o1), .val (.int lo), .val (.int (0 : Int32)), .val (.ref tx), .val (.ref ex), .val (.ref b33), .val (.int (own_want ki lt lo t0 t1 o0 o1)), .val (.int (0 : Int32)), .val (.int (0 : Int32))]) rfl) ?_
                show Go p e below _ T57 (mkF m 248 #[.val (.int p0), .val (.int p1), .val (.int p2), .val (.int p3), .val (.int p4), .val (.int p5), .val (.int ki), .val (own_kind ki w0 w1 w2 w3 w4 w5), .val (.int lt), .val (.int t0), .val (.int t1), .val (.int o0), .val (.int o1), .val (.int lo), .val (.int (0 : Int32)), .val (.ref tx), .val (.ref ex), .val (.ref b33), .val (.int (own_want ki lt lo t0 t1 o0 o1)), .val (.int (0 : Int32)), .val (.int (0 : Int32))] [])
                refine Go.of (fun _ => XS.iload H58.here hx rfl (hb hby at_248) rfl) ?_
                show Go p e below _ T57 (mkF m 250 #[.val (.int p0), .val (.int p1), .val (.int p2), .val (.int p3), .val (.int p4), .val (.int p5), .val (.int ki), .val (own_kind ki w0 w1 w2 w3 w4 w5), .val (.int lt), .val (.int t0), .val (.int t1), .val (.int o0), .val (.int o1), .val (.int lo), .val (.int (0 : Int32)), .val (.ref tx), .val (.ref ex), .val (.ref b33), .val (.int (own_want ki lt lo t0 t1 o0 o1)), .val (.int (0 : Int32)), .val (.int (0 : Int32))] [(.int (own_want ki lt lo t0 t1 o0 o1))])
                refine Go.of (fun _ => XS.iload H58.here hx rfl (hb hby at_250) rfl) ?_
                show Go p e below _ T57 (mkF m 252 #[.val (.int p0), .val (.int p1), .val (.int p2), .val (.int p3), .val (.int p4), .val (.int p5), .val (.int ki), .val (own_kind ki w0 w1 w2 w3 w4 w5), .val (.int lt), .val (.int t0), .val (.int t1), .val (.int o0), .val (.int o1), .val (.int lo), .val (.int (0 : Int32)), .val (.ref tx), .val (.ref ex), .val (.ref b33), .val (.int (own_want ki lt lo t0 t1 o0 o1)), .val (.int (0 : Int32)), .val (.int (0 : Int32))] [(.int (0 : Int32)), (.int (own_want ki lt lo t0 t1 o0 o1))])
                rw [show (own_want ki lt lo t0 t1 o0 o1) = (0 : Int32) from if_neg (fun q => (fun q => (fun q => (fun q => q.elim hc66 hc75) q.1) q.2) q.2)]
                show Go p e below _ T57 (mkF m 252 #[.val (.int p0), .val (.int p1), .val (.int p2), .val (.int p3), .val (.int p4), .val (.int p5), .val (.int ki), .val (own_kind ki w0 w1 w2 w3 w4 w5), .val (.int lt), .val (.int t0), .val (.int t1), .val (.int o0), .val (.int o1), .val (.int lo), .val (.int (0 : Int32)), .val (.ref tx), .val (.ref ex), .val (.ref b33), .val (.int (0 : Int32)), .val (.int (0 : Int32)), .val (.int (0 : Int32))] [(.int (0 : Int32)), (.int (0 : Int32))])
                refine Go.of (fun _ => XS.icmpNo H58.here hx rfl (hb hby at_252) rfl (teq (by decide : (0 : Int32) = (0 : Int32))).2) ?_
                show Go p e below _ T57 (mkF m 255 #[.val (.int p0), .val (.int p1), .val (.int p2), .val (.int p3), .val (.int p4), .val (.int p5), .val (.int ki), .val (own_kind ki w0 w1 w2 w3 w4 w5), .val (.int lt), .val (.int t0), .val (.int t1), .val (.int o0), .val (.int o1), .val (.int lo), .val (.int (0 : Int32)), .val (.ref tx), .val (.ref ex), .val (.ref b33), .val (.int (0 : Int32)), .val (.int (0 : Int32)), .val (.int (0 : Int32))] [])
                refine Go.of (fun _ => XS.iconst H58.here hx rfl (hb hby at_255)) ?_
                show Go p e below _ T57 (mkF m 256 #[.val (.int p0), .val (.int p1), .val (.int p2), .val (.int p3), .val (.int p4), .val (.int p5), .val (.int ki), .val (own_kind ki w0 w1 w2 w3 w4 w5), .val (.int lt), .val (.int t0), .val (.int t1), .val (.int o0), .val (.int o1), .val (.int lo), .val (.int (0 : Int32)), .val (.ref tx), .val (.ref ex), .val (.ref b33), .val (.int (0 : Int32)), .val (.int (0 : Int32)), .val (.int (0 : Int32))] [(.int (1 : Int32))])
                refine Go.of (fun _ => XS.goto H58.here hx rfl (pc0 := 256) (pc' := 260) rfl (hb hby at_256) (by decide) (by decide)) ?_
                show Go p e below _ T57 (mkF m 260 #[.val (.int p0), .val (.int p1), .val (.int p2), .val (.int p3), .val (.int p4), .val (.int p5), .val (.int ki), .val (own_kind ki w0 w1 w2 w3 w4 w5), .val (.int lt), .val (.int t0), .val (.int t1), .val (.int o0), .val (.int o1), .val (.int lo), .val (.int (0 : Int32)), .val (.ref tx), .val (.ref ex), .val (.ref b33), .val (.int (0 : Int32)), .val (.int (0 : Int32)), .val (.int (0 : Int32))] [(.int (1 : Int32))])
                exact own_retN H58 hx hlk (t := .boolean) hret (by simp) (hb hby at_260) rfl (by decide) (by decide)
              · skip
                refine Go.of (fun _ => XS.icmpNo H58.here hx rfl (hb hby at_227) rfl (feq hc84).1) ?_
                show Go p e below _ T57 (mkF m 230 #[.val (.int p0), .val (.int p1), .val (.int p2), .val (.int p3), .val (.int p4), .val (.int p5), .val (.int ki), .val (own_kind ki w0 w1 w2 w3 w4 w5), .val (.int lt), .val (.int t0), .val (.int t1), .val (.int o0), .val (.int o1), .val (.int lo), .val (.int (0 : Int32)), .val (.ref tx), .val (.ref ex), .val (.ref b33), .val (.int (own_want ki lt lo t0 t1 o0 o1)), .val (.int (0 : Int32)), .unset] [])
                refine Go.of (fun _ => XS.iload H58.here hx rfl (hb hby at_230) rfl) ?_
                show Go p e below _ T57 (mkF m 232 #[.val (.int p0), .val (.int p1), .val (.int p2), .val (.int p3), .val (.int p4), .val (.int p5), .val (.int ki), .val (own_kind ki w0 w1 w2 w3 w4 w5), .val (.int lt), .val (.int t0), .val (.int t1), .val (.int o0), .val (.int o1), .val (.int lo), .val (.int (0 : Int32)), .val (.ref tx), .val (.ref ex), .val (.ref b33), .val (.int (own_want ki lt lo t0 t1 o0 o1)), .val (.int (0 : Int32)), .unset] [(.int ki)])
                refine Go.of (fun _ => XS.iconst H58.here hx rfl (hb hby at_232)) ?_
                show Go p e below _ T57 (mkF m 233 #[.val (.int p0), .val (.int p1), .val (.int p2), .val (.int p3), .val (.int p4), .val (.int p5), .val (.int ki), .val (own_kind ki w0 w1 w2 w3 w4 w5), .val (.int lt), .val (.int t0), .val (.int t1), .val (.int o0), .val (.int o1), .val (.int lo), .val (.int (0 : Int32)), .val (.ref tx), .val (.ref ex), .val (.ref b33), .val (.int (own_want ki lt lo t0 t1 o0 o1)), .val (.int (0 : Int32)), .unset] [(.int (4 : Int32)), (.int ki)])
                by_cases hc85 : ki = (4 : Int32)
                · skip
                  refine Go.of (fun _ => XS.icmpNo H58.here hx rfl (hb hby at_233) rfl (teq hc85).2) ?_
                  show Go p e below _ T57 (mkF m 236 #[.val (.int p0), .val (.int p1), .val (.int p2), .val (.int p3), .val (.int p4), .val (.int p5), .val (.int ki), .val (own_kind ki w0 w1 w2 w3 w4 w5), .val (.int lt), .val (.int t0), .val (.int t1), .val (.int o0), .val (.int o1), .val (.int lo), .val (.int (0 : Int32)), .val (.ref tx), .val (.ref ex), .val (.ref b33), .val (.int (own_want ki lt lo t0 t1 o0 o1)), .val (.int (0 : Int32)), .unset] [])
                  refine Go.of (fun _ => XS.iload H58.here hx rfl (hb hby at_236) rfl) ?_
                  show Go p e below _ T57 (mkF m 238 #[.val (.int p0), .val (.int p1), .val (.int p2), .val (.int p3), .val (.int p4), .val (.int p5), .val (.int ki), .val (own_kind ki w0 w1 w2 w3 w4 w5), .val (.int lt), .val (.int t0), .val (.int t1), .val (.int o0), .val (.int o1), .val (.int lo), .val (.int (0 : Int32)), .val (.ref tx), .val (.ref ex), .val (.ref b33), .val (.int (own_want ki lt lo t0 t1 o0 o1)), .val (.int (0 : Int32)), .unset] [(.int (0 : Int32))])
                  refine Go.of (fun _ => XS.ifYes H58.here hx rfl (pc0 := 238) (pc' := 245) rfl (hb hby at_238) rfl ((if0 _ _).trans (teq (by decide : (0 : Int32) = (0 : Int32))).1) (by decide) (by decide)) ?_
                  show Go p e below _ T57 (mkF m 245 #[.val (.int p0), .val (.int p1), .val (.int p2), .val (.int p3), .val (.int p4), .val (.int p5), .val (.int ki), .val (own_kind ki w0 w1 w2 w3 w4 w5), .val (.int lt), .val (.int t0), .val (.int t1), .val (.int o0), .val (.int o1), .val (.int lo), .val (.int (0 : Int32)), .val (.ref tx), .val (.ref ex), .val (.ref b33), .val (.int (own_want ki lt lo t0 t1 o0 o1)), .val (.int (0 : Int32)), .unset] [])
                  refine Go.of (fun _ => XS.iconst H58.here hx rfl (hb hby at_245)) ?_
                  show Go p e below _ T57 (mkF m 246 #[.val (.int p0), .val (.int p1), .val (.int p2), .val (.int p3), .val (.int p4), .val (.int p5), .val (.int ki), .val (own_kind ki w0 w1 w2 w3 w4 w5), .val (.int lt), .val (.int t0), .val (.int t1), .val (.int o0), .val (.int o1), .val (.int lo), .val (.int (0 : Int32)), .val (.ref tx), .val (.ref ex), .val (.ref b33), .val (.int (own_want ki lt lo t0 t1 o0 o1)), .val (.int (0 : Int32)), .unset] [(.int (0 : Int32))])
                  refine Go.of (fun _ => XS.istore H58.here hx rfl (hb hby at_246) rfl (l' := #[.val (.int p0), .val (.int p1), .val (.int p2), .val (.int p3), .val (.int p4), .val (.int p5), .val (.int ki), .val (own_kind ki w0 w1 w2 w3 w4 w5), .val (.int lt), .val (.int t0), .val (.int t1), .val (.int o0), .val (.int o1), .val (.int lo), .val (.int (0 : Int32)), .val (.ref tx), .val (.ref ex), .val (.ref b33), .val (.int (own_want ki lt lo t0 t1 o0 o1)), .val (.int (0 : Int32)), .val (.int (0 : Int32))]) rfl) ?_
                  show Go p e below _ T57 (mkF m 248 #[.val (.int p0), .val (.int p1), .val (.int p2), .val (.int p3), .val (.int p4), .val (.int p5), .val (.int ki), .val (own_kind ki w0 w1 w2 w3 w4 w5), .val (.int lt), .val (.int t0), .val (.int t1), .val (.int o0), .val (.int o1), .val (.int lo), .val (.int (0 : Int32)), .val (.ref tx), .val (.ref ex), .val (.ref b33), .val (.int (own_want ki lt lo t0 t1 o0 o1)), .val (.int (0 : Int32)), .val (.int (0 : Int32))] [])
                  refine Go.of (fun _ => XS.iload H58.here hx rfl (hb hby at_248) rfl) ?_
                  show Go p e below _ T57 (mkF m 250 #[.val (.int p0), .val (.int p1), .val (.int p2), .val (.int p3), .val (.int p4), .val (.int p5), .val (.int ki), .val (own_kind ki w0 w1 w2 w3 w4 w5), .val (.int lt), .val (.int t0), .val (.int t1), .val (.int o0), .val (.int o1), .val (.int lo), .val (.int (0 : Int32)), .val (.ref tx), .val (.ref ex), .val (.ref b33), .val (.int (own_want ki lt lo t0 t1 o0 o1)), .val (.int (0 : Int32)), .val (.int (0 : Int32))] [(.int (own_want ki lt lo t0 t1 o0 o1))])
                  refine Go.of (fun _ => XS.iload H58.here hx rfl (hb hby at_250) rfl) ?_
                  show Go p e below _ T57 (mkF m 252 #[.val (.int p0), .val (.int p1), .val (.int p2), .val (.int p3), .val (.int p4), .val (.int p5), .val (.int ki), .val (own_kind ki w0 w1 w2 w3 w4 w5), .val (.int lt), .val (.int t0), .val (.int t1), .val (.int o0), .val (.int o1), .val (.int lo), .val (.int (0 : Int32)), .val (.ref tx), .val (.ref ex), .val (.ref b33), .val (.int (own_want ki lt lo t0 t1 o0 o1)), .val (.int (0 : Int32)), .val (.int (0 : Int32))] [(.int (0 : Int32)), (.int (own_want ki lt lo t0 t1 o0 o1))])
                  rw [show (own_want ki lt lo t0 t1 o0 o1) = (0 : Int32) from if_neg (fun q => (fun q => (fun q => (fun q => q.elim hc66 hc75) q.1) q.2) q.2)]
                  show Go p e below _ T57 (mkF m 252 #[.val (.int p0), .val (.int p1), .val (.int p2), .val (.int p3), .val (.int p4), .val (.int p5), .val (.int ki), .val (own_kind ki w0 w1 w2 w3 w4 w5), .val (.int lt), .val (.int t0), .val (.int t1), .val (.int o0), .val (.int o1), .val (.int lo), .val (.int (0 : Int32)), .val (.ref tx), .val (.ref ex), .val (.ref b33), .val (.int (0 : Int32)), .val (.int (0 : Int32)), .val (.int (0 : Int32))] [(.int (0 : Int32)), (.int (0 : Int32))])
                  refine Go.of (fun _ => XS.icmpNo H58.here hx rfl (hb hby at_252) rfl (teq (by decide : (0 : Int32) = (0 : Int32))).2) ?_
                  show Go p e below _ T57 (mkF m 255 #[.val (.int p0), .val (.int p1), .val (.int p2), .val (.int p3), .val (.int p4), .val (.int p5), .val (.int ki), .val (own_kind ki w0 w1 w2 w3 w4 w5), .val (.int lt), .val (.int t0), .val (.int t1), .val (.int o0), .val (.int o1), .val (.int lo), .val (.int (0 : Int32)), .val (.ref tx), .val (.ref ex), .val (.ref b33), .val (.int (0 : Int32)), .val (.int (0 : Int32)), .val (.int (0 : Int32))] [])
                  refine Go.of (fun _ => XS.iconst H58.here hx rfl (hb hby at_255)) ?_
                  show Go p e below _ T57 (mkF m 256 #[.val (.int p0), .val (.int p1), .val (.int p2), .val (.int p3), .val (.int p4), .val (.int p5), .val (.int ki), .val (own_kind ki w0 w1 w2 w3 w4 w5), .val (.int lt), .val (.int t0), .val (.int t1), .val (.int o0), .val (.int o1), .val (.int lo), .val (.int (0 : Int32)), .val (.ref tx), .val (.ref ex), .val (.ref b33), .val (.int (0 : Int32)), .val (.int (0 : Int32)), .val (.int (0 : Int32))] [(.int (1 : Int32))])
                  refine Go.of (fun _ => XS.goto H58.here hx rfl (pc0 := 256) (pc' := 260) rfl (hb hby at_256) (by decide) (by decide)) ?_
                  show Go p e below _ T57 (mkF m 260 #[.val (.int p0), .val (.int p1), .val (.int p2), .val (.int p3), .val (.int p4), .val (.int p5), .val (.int ki), .val (own_kind ki w0 w1 w2 w3 w4 w5), .val (.int lt), .val (.int t0), .val (.int t1), .val (.int o0), .val (.int o1), .val (.int lo), .val (.int (0 : Int32)), .val (.ref tx), .val (.ref ex), .val (.ref b33), .val (.int (0 : Int32)), .val (.int (0 : Int32)), .val (.int (0 : Int32))] [(.int (1 : Int32))])
                  exact own_retN H58 hx hlk (t := .boolean) hret (by simp) (hb hby at_260) rfl (by decide) (by decide)
                · skip
                  refine Go.of (fun _ => XS.icmpYes H58.here hx rfl (pc0 := 233) (pc' := 245) rfl (hb hby at_233) rfl (feq hc85).2 (by decide) (by decide)) ?_
                  show Go p e below _ T57 (mkF m 245 #[.val (.int p0), .val (.int p1), .val (.int p2), .val (.int p3), .val (.int p4), .val (.int p5), .val (.int ki), .val (own_kind ki w0 w1 w2 w3 w4 w5), .val (.int lt), .val (.int t0), .val (.int t1), .val (.int o0), .val (.int o1), .val (.int lo), .val (.int (0 : Int32)), .val (.ref tx), .val (.ref ex), .val (.ref b33), .val (.int (own_want ki lt lo t0 t1 o0 o1)), .val (.int (0 : Int32)), .unset] [])
                  refine Go.of (fun _ => XS.iconst H58.here hx rfl (hb hby at_245)) ?_
                  show Go p e below _ T57 (mkF m 246 #[.val (.int p0), .val (.int p1), .val (.int p2), .val (.int p3), .val (.int p4), .val (.int p5), .val (.int ki), .val (own_kind ki w0 w1 w2 w3 w4 w5), .val (.int lt), .val (.int t0), .val (.int t1), .val (.int o0), .val (.int o1), .val (.int lo), .val (.int (0 : Int32)), .val (.ref tx), .val (.ref ex), .val (.ref b33), .val (.int (own_want ki lt lo t0 t1 o0 o1)), .val (.int (0 : Int32)), .unset] [(.int (0 : Int32))])
                  refine Go.of (fun _ => XS.istore H58.here hx rfl (hb hby at_246) rfl (l' := #[.val (.int p0), .val (.int p1), .val (.int p2), .val (.int p3), .val (.int p4), .val (.int p5), .val (.int ki), .val (own_kind ki w0 w1 w2 w3 w4 w5), .val (.int lt), .val (.int t0), .val (.int t1), .val (.int o0), .val (.int o1), .val (.int lo), .val (.int (0 : Int32)), .val (.ref tx), .val (.ref ex), .val (.ref b33), .val (.int (own_want ki lt lo t0 t1 o0 o1)), .val (.int (0 : Int32)), .val (.int (0 : Int32))]) rfl) ?_
                  show Go p e below _ T57 (mkF m 248 #[.val (.int p0), .val (.int p1), .val (.int p2), .val (.int p3), .val (.int p4), .val (.int p5), .val (.int ki), .val (own_kind ki w0 w1 w2 w3 w4 w5), .val (.int lt), .val (.int t0), .val (.int t1), .val (.int o0), .val (.int o1), .val (.int lo), .val (.int (0 : Int32)), .val (.ref tx), .val (.ref ex), .val (.ref b33), .val (.int (own_want ki lt lo t0 t1 o0 o1)), .val (.int (0 : Int32)), .val (.int (0 : Int32))] [])
                  refine Go.of (fun _ => XS.iload H58.here hx rfl (hb hby at_248) rfl) ?_
                  show Go p e below _ T57 (mkF m 250 #[.val (.int p0), .val (.int p1), .val (.int p2), .val (.int p3), .val (.int p4), .val (.int p5), .val (.int ki), .val (own_kind ki w0 w1 w2 w3 w4 w5), .val (.int lt), .val (.int t0), .val (.int t1), .val (.int o0), .val (.int o1), .val (.int lo), .val (.int (0 : Int32)), .val (.ref tx), .val (.ref ex), .val (.ref b33), .val (.int (own_want ki lt lo t0 t1 o0 o1)), .val (.int (0 : Int32)), .val (.int (0 : Int32))] [(.int (own_want ki lt lo t0 t1 o0 o1))])
                  refine Go.of (fun _ => XS.iload H58.here hx rfl (hb hby at_250) rfl) ?_
                  show Go p e below _ T57 (mkF m 252 #[.val (.int p0), .val (.int p1), .val (.int p2), .val (.int p3), .val (.int p4), .val (.int p5), .val (.int ki), .val (own_kind ki w0 w1 w2 w3 w4 w5), .val (.int lt), .val (.int t0), .val (.int t1), .val (.int o0), .val (.int o1), .val (.int lo), .val (.int (0 : Int32)), .val (.ref tx), .val (.ref ex), .val (.ref b33), .val (.int (own_want ki lt lo t0 t1 o0 o1)), .val (.int (0 : Int32)), .val (.int (0 : Int32))] [(.int (0 : Int32)), (.int (own_want ki lt lo t0 t1 o0 o1))])
                  rw [show (own_want ki lt lo t0 t1 o0 o1) = (0 : Int32) from if_neg (fun q => (fun q => q.elim hc84 hc85) q.1)]
                  show Go p e below _ T57 (mkF m 252 #[.val (.int p0), .val (.int p1), .val (.int p2), .val (.int p3), .val (.int p4), .val (.int p5), .val (.int ki), .val (own_kind ki w0 w1 w2 w3 w4 w5), .val (.int lt), .val (.int t0), .val (.int t1), .val (.int o0), .val (.int o1), .val (.int lo), .val (.int (0 : Int32)), .val (.ref tx), .val (.ref ex), .val (.ref b33), .val (.int (0 : Int32)), .val (.int (0 : Int32)), .val (.int (0 : Int32))] [(.int (0 : Int32)), (.int (0 : Int32))])
                  refine Go.of (fun _ => XS.icmpNo H58.here hx rfl (hb hby at_252) rfl (teq (by decide : (0 : Int32) = (0 : Int32))).2) ?_
                  show Go p e below _ T57 (mkF m 255 #[.val (.int p0), .val (.int p1), .val (.int p2), .val (.int p3), .val (.int p4), .val (.int p5), .val (.int ki), .val (own_kind ki w0 w1 w2 w3 w4 w5), .val (.int lt), .val (.int t0), .val (.int t1), .val (.int o0), .val (.int o1), .val (.int lo), .val (.int (0 : Int32)), .val (.ref tx), .val (.ref ex), .val (.ref b33), .val (.int (0 : Int32)), .val (.int (0 : Int32)), .val (.int (0 : Int32))] [])
                  refine Go.of (fun _ => XS.iconst H58.here hx rfl (hb hby at_255)) ?_
                  show Go p e below _ T57 (mkF m 256 #[.val (.int p0), .val (.int p1), .val (.int p2), .val (.int p3), .val (.int p4), .val (.int p5), .val (.int ki), .val (own_kind ki w0 w1 w2 w3 w4 w5), .val (.int lt), .val (.int t0), .val (.int t1), .val (.int o0), .val (.int o1), .val (.int lo), .val (.int (0 : Int32)), .val (.ref tx), .val (.ref ex), .val (.ref b33), .val (.int (0 : Int32)), .val (.int (0 : Int32)), .val (.int (0 : Int32))] [(.int (1 : Int32))])
                  refine Go.of (fun _ => XS.goto H58.here hx rfl (pc0 := 256) (pc' := 260) rfl (hb hby at_256) (by decide) (by decide)) ?_
                  show Go p e below _ T57 (mkF m 260 #[.val (.int p0), .val (.int p1), .val (.int p2), .val (.int p3), .val (.int p4), .val (.int p5), .val (.int ki), .val (own_kind ki w0 w1 w2 w3 w4 w5), .val (.int lt), .val (.int t0), .val (.int t1), .val (.int o0), .val (.int o1), .val (.int lo), .val (.int (0 : Int32)), .val (.ref tx), .val (.ref ex), .val (.ref b33), .val (.int (0 : Int32)), .val (.int (0 : Int32)), .val (.int (0 : Int32))] [(.int (1 : Int32))])
                  exact own_retN H58 hx hlk (t := .boolean) hret (by simp) (hb hby at_260) rfl (by decide) (by decide)
        · skip
          refine Go.of (fun _ => XS.icmpYes H58.here hx rfl (pc0 := 188) (pc' := 221) rfl (hb hby at_188) rfl (feq hc65).2 (by decide) (by decide)) ?_
          show Go p e below _ T57 (mkF m 221 #[.val (.int p0), .val (.int p1), .val (.int p2), .val (.int p3), .val (.int p4), .val (.int p5), .val (.int ki), .val (own_kind ki w0 w1 w2 w3 w4 w5), .val (.int lt), .val (.int t0), .val (.int t1), .val (.int o0), .val (.int o1), .val (.int lo), .val (.int (0 : Int32)), .val (.ref tx), .val (.ref ex), .val (.ref b33), .val (.int (own_want ki lt lo t0 t1 o0 o1)), .unset, .unset] [])
          refine Go.of (fun _ => XS.iconst H58.here hx rfl (hb hby at_221)) ?_
          show Go p e below _ T57 (mkF m 222 #[.val (.int p0), .val (.int p1), .val (.int p2), .val (.int p3), .val (.int p4), .val (.int p5), .val (.int ki), .val (own_kind ki w0 w1 w2 w3 w4 w5), .val (.int lt), .val (.int t0), .val (.int t1), .val (.int o0), .val (.int o1), .val (.int lo), .val (.int (0 : Int32)), .val (.ref tx), .val (.ref ex), .val (.ref b33), .val (.int (own_want ki lt lo t0 t1 o0 o1)), .unset, .unset] [(.int (0 : Int32))])
          refine Go.of (fun _ => XS.istore H58.here hx rfl (hb hby at_222) rfl (l' := #[.val (.int p0), .val (.int p1), .val (.int p2), .val (.int p3), .val (.int p4), .val (.int p5), .val (.int ki), .val (own_kind ki w0 w1 w2 w3 w4 w5), .val (.int lt), .val (.int t0), .val (.int t1), .val (.int o0), .val (.int o1), .val (.int lo), .val (.int (0 : Int32)), .val (.ref tx), .val (.ref ex), .val (.ref b33), .val (.int (own_want ki lt lo t0 t1 o0 o1)), .val (.int (0 : Int32)), .unset]) rfl) ?_
          show Go p e below _ T57 (mkF m 224 #[.val (.int p0), .val (.int p1), .val (.int p2), .val (.int p3), .val (.int p4), .val (.int p5), .val (.int ki), .val (own_kind ki w0 w1 w2 w3 w4 w5), .val (.int lt), .val (.int t0), .val (.int t1), .val (.int o0), .val (.int o1), .val (.int lo), .val (.int (0 : Int32)), .val (.ref tx), .val (.ref ex), .val (.ref b33), .val (.int (own_want ki lt lo t0 t1 o0 o1)), .val (.int (0 : Int32)), .unset] [])
          refine Go.of (fun _ => XS.iload H58.here hx rfl (hb hby at_224) rfl) ?_
          show Go p e below _ T57 (mkF m 226 #[.val (.int p0), .val (.int p1), .val (.int p2), .val (.int p3), .val (.int p4), .val (.int p5), .val (.int ki), .val (own_kind ki w0 w1 w2 w3 w4 w5), .val (.int lt), .val (.int t0), .val (.int t1), .val (.int o0), .val (.int o1), .val (.int lo), .val (.int (0 : Int32)), .val (.ref tx), .val (.ref ex), .val (.ref b33), .val (.int (own_want ki lt lo t0 t1 o0 o1)), .val (.int (0 : Int32)), .unset] [(.int ki)])
          refine Go.of (fun _ => XS.iconst H58.here hx rfl (hb hby at_226)) ?_
          show Go p e below _ T57 (mkF m 227 #[.val (.int p0), .val (.int p1), .val (.int p2), .val (.int p3), .val (.int p4), .val (.int p5), .val (.int ki), .val (own_kind ki w0 w1 w2 w3 w4 w5), .val (.int lt), .val (.int t0), .val (.int t1), .val (.int o0), .val (.int o1), .val (.int lo), .val (.int (0 : Int32)), .val (.ref tx), .val (.ref ex), .val (.ref b33), .val (.int (own_want ki lt lo t0 t1 o0 o1)), .val (.int (0 : Int32)), .unset] [(.int (1 : Int32)), (.int ki)])
          by_cases hc86 : ki = (1 : Int32)
          · skip
            refine Go.of (fun _ => XS.icmpYes H58.here hx rfl (pc0 := 227) (pc' := 236) rfl (hb hby at_227) rfl (teq hc86).1 (by decide) (by decide)) ?_
            show Go p e below _ T57 (mkF m 236 #[.val (.int p0), .val (.int p1), .val (.int p2), .val (.int p3), .val (.int p4), .val (.int p5), .val (.int ki), .val (own_kind ki w0 w1 w2 w3 w4 w5), .val (.int lt), .val (.int t0), .val (.int t1), .val (.int o0), .val (.int o1), .val (.int lo), .val (.int (0 : Int32)), .val (.ref tx), .val (.ref ex), .val (.ref b33), .val (.int (own_want ki lt lo t0 t1 o0 o1)), .val (.int (0 : Int32)), .unset] [])
            refine Go.of (fun _ => XS.iload H58.here hx rfl (hb hby at_236) rfl) ?_
            show Go p e below _ T57 (mkF m 238 #[.val (.int p0), .val (.int p1), .val (.int p2), .val (.int p3), .val (.int p4), .val (.int p5), .val (.int ki), .val (own_kind ki w0 w1 w2 w3 w4 w5), .val (.int lt), .val (.int t0), .val (.int t1), .val (.int o0), .val (.int o1), .val (.int lo), .val (.int (0 : Int32)), .val (.ref tx), .val (.ref ex), .val (.ref b33), .val (.int (own_want ki lt lo t0 t1 o0 o1)), .val (.int (0 : Int32)), .unset] [(.int (0 : Int32))])
            refine Go.of (fun _ => XS.ifYes H58.here hx rfl (pc0 := 238) (pc' := 245) rfl (hb hby at_238) rfl ((if0 _ _).trans (teq (by decide : (0 : Int32) = (0 : Int32))).1) (by decide) (by decide)) ?_
            show Go p e below _ T57 (mkF m 245 #[.val (.int p0), .val (.int p1), .val (.int p2), .val (.int p3), .val (.int p4), .val (.int p5), .val (.int ki), .val (own_kind ki w0 w1 w2 w3 w4 w5), .val (.int lt), .val (.int t0), .val (.int t1), .val (.int o0), .val (.int o1), .val (.int lo), .val (.int (0 : Int32)), .val (.ref tx), .val (.ref ex), .val (.ref b33), .val (.int (own_want ki lt lo t0 t1 o0 o1)), .val (.int (0 : Int32)), .unset] [])
            refine Go.of (fun _ => XS.iconst H58.here hx rfl (hb hby at_245)) ?_
            show Go p e below _ T57 (mkF m 246 #[.val (.int p0), .val (.int p1), .val (.int p2), .val (.int p3), .val (.int p4), .val (.int p5), .val (.int ki), .val (own_kind ki w0 w1 w2 w3 w4 w5), .val (.int lt), .val (.int t0), .val (.int t1), .val (.int o0), .val (.int o1), .val (.int lo), .val (.int (0 : Int32)), .val (.ref tx), .val (.ref ex), .val (.ref b33), .val (.int (own_want ki lt lo t0 t1 o0 o1)), .val (.int (0 : Int32)), .unset] [(.int (0 : Int32))])
            refine Go.of (fun _ => XS.istore H58.here hx rfl (hb hby at_246) rfl (l' := #[.val (.int p0), .val (.int p1), .val (.int p2), .val (.int p3), .val (.int p4), .val (.int p5), .val (.int ki), .val (own_kind ki w0 w1 w2 w3 w4 w5), .val (.int lt), .val (.int t0), .val (.int t1), .val (.int o0), .val (.int o1), .val (.int lo), .val (.int (0 : Int32)), .val (.ref tx), .val (.ref ex), .val (.ref b33), .val (.int (own_want ki lt lo t0 t1 o0 o1)), .val (.int (0 : Int32)), .val (.int (0 : Int32))]) rfl) ?_
            show Go p e below _ T57 (mkF m 248 #[.val (.int p0), .val (.int p1), .val (.int p2), .val (.int p3), .val (.int p4), .val (.int p5), .val (.int ki), .val (own_kind ki w0 w1 w2 w3 w4 w5), .val (.int lt), .val (.int t0), .val (.int t1), .val (.int o0), .val (.int o1), .val (.int lo), .val (.int (0 : Int32)), .val (.ref tx), .val (.ref ex), .val (.ref b33), .val (.int (own_want ki lt lo t0 t1 o0 o1)), .val (.int (0 : Int32)), .val (.int (0 : Int32))] [])
            refine Go.of (fun _ => XS.iload H58.here hx rfl (hb hby at_248) rfl) ?_
            show Go p e below _ T57 (mkF m 250 #[.val (.int p0), .val (.int p1), .val (.int p2), .val (.int p3), .val (.int p4), .val (.int p5), .val (.int ki), .val (own_kind ki w0 w1 w2 w3 w4 w5), .val (.int lt), .val (.int t0), .val (.int t1), .val (.int o0), .val (.int o1), .val (.int lo), .val (.int (0 : Int32)), .val (.ref tx), .val (.ref ex), .val (.ref b33), .val (.int (own_want ki lt lo t0 t1 o0 o1)), .val (.int (0 : Int32)), .val (.int (0 : Int32))] [(.int (own_want ki lt lo t0 t1 o0 o1))])
            refine Go.of (fun _ => XS.iload H58.here hx rfl (hb hby at_250) rfl) ?_
            show Go p e below _ T57 (mkF m 252 #[.val (.int p0), .val (.int p1), .val (.int p2), .val (.int p3), .val (.int p4), .val (.int p5), .val (.int ki), .val (own_kind ki w0 w1 w2 w3 w4 w5), .val (.int lt), .val (.int t0), .val (.int t1), .val (.int o0), .val (.int o1), .val (.int lo), .val (.int (0 : Int32)), .val (.ref tx), .val (.ref ex), .val (.ref b33), .val (.int (own_want ki lt lo t0 t1 o0 o1)), .val (.int (0 : Int32)), .val (.int (0 : Int32))] [(.int (0 : Int32)), (.int (own_want ki lt lo t0 t1 o0 o1))])
            rw [show (own_want ki lt lo t0 t1 o0 o1) = (0 : Int32) from if_neg (fun q => (fun q => hc65 q.1) q.2)]
            show Go p e below _ T57 (mkF m 252 #[.val (.int p0), .val (.int p1), .val (.int p2), .val (.int p3), .val (.int p4), .val (.int p5), .val (.int ki), .val (own_kind ki w0 w1 w2 w3 w4 w5), .val (.int lt), .val (.int t0), .val (.int t1), .val (.int o0), .val (.int o1), .val (.int lo), .val (.int (0 : Int32)), .val (.ref tx), .val (.ref ex), .val (.ref b33), .val (.int (0 : Int32)), .val (.int (0 : Int32)), .val (.int (0 : Int32))] [(.int (0 : Int32)), (.int (0 : Int32))])
            refine Go.of (fun _ => XS.icmpNo H58.here hx rfl (hb hby at_252) rfl (teq (by decide : (0 : Int32) = (0 : Int32))).2) ?_
            show Go p e below _ T57 (mkF m 255 #[.val (.int p0), .val (.int p1), .val (.int p2), .val (.int p3), .val (.int p4), .val (.int p5), .val (.int ki), .val (own_kind ki w0 w1 w2 w3 w4 w5), .val (.int lt), .val (.int t0), .val (.int t1), .val (.int o0), .val (.int o1), .val (.int lo), .val (.int (0 : Int32)), .val (.ref tx), .val (.ref ex), .val (.ref b33), .val (.int (0 : Int32)), .val (.int (0 : Int32)), .val (.int (0 : Int32))] [])
            refine Go.of (fun _ => XS.iconst H58.here hx rfl (hb hby at_255)) ?_
            show Go p e below _ T57 (mkF m 256 #[.val (.int p0), .val (.int p1), .val (.int p2), .val (.int p3), .val (.int p4), .val (.int p5), .val (.int ki), .val (own_kind ki w0 w1 w2 w3 w4 w5), .val (.int lt), .val (.int t0), .val (.int t1), .val (.int o0), .val (.int o1), .val (.int lo), .val (.int (0 : Int32)), .val (.ref tx), .val (.ref ex), .val (.ref b33), .val (.int (0 : Int32)), .val (.int (0 : Int32)), .val (.int (0 : Int32))] [(.int (1 : Int32))])
            refine Go.of (fun _ => XS.goto H58.here hx rfl (pc0 := 256) (pc' := 260) rfl (hb hby at_256) (by decide) (by decide)) ?_
            show Go p e below _ T57 (mkF m 260 #[.val (.int p0), .val (.int p1), .val (.int p2), .val (.int p3), .val (.int p4), .val (.int p5), .val (.int ki), .val (own_kind ki w0 w1 w2 w3 w4 w5), .val (.int lt), .val (.int t0), .val (.int t1), .val (.int o0), .val (.int o1), .val (.int lo), .val (.int (0 : Int32)), .val (.ref tx), .val (.ref ex), .val (.ref b33), .val (.int (0 : Int32)), .val (.int (0 : Int32)), .val (.int (0 : Int32))] [(.int (1 : Int32))])
            exact own_retN H58 hx hlk (t := .boolean) hret (by simp) (hb hby at_260) rfl (by decide) (by decide)
          · skip
            refine Go.of (fun _ => XS.icmpNo H58.here hx rfl (hb hby at_227) rfl (feq hc86).1) ?_
            show Go p e below _ T57 (mkF m 230 #[.val (.int p0), .val (.int p1), .val (.int p2), .val (.int p3), .val (.int p4), .val (.int p5), .val (.int ki), .val (own_kind ki w0 w1 w2 w3 w4 w5), .val (.int lt), .val (.int t0), .val (.int t1), .val (.int o0), .val (.int o1), .val (.int lo), .val (.int (0 : Int32)), .val (.ref tx), .val (.ref ex), .val (.ref b33), .val (.int (own_want ki lt lo t0 t1 o0 o1)), .val (.int (0 : Int32)), .unset] [])
            refine Go.of (fun _ => XS.iload H58.here hx rfl (hb hby at_230) rfl) ?_
            show Go p e below _ T57 (mkF m 232 #[.val (.int p0), .val (.int p1), .val (.int p2), .val (.int p3), .val (.int p4), .val (.int p5), .val (.int ki), .val (own_kind ki w0 w1 w2 w3 w4 w5), .val (.int lt), .val (.int t0), .val (.int t1), .val (.int o0), .val (.int o1), .val (.int lo), .val (.int (0 : Int32)), .val (.ref tx), .val (.ref ex), .val (.ref b33), .val (.int (own_want ki lt lo t0 t1 o0 o1)), .val (.int (0 : Int32)), .unset] [(.int ki)])
            refine Go.of (fun _ => XS.iconst H58.here hx rfl (hb hby at_232)) ?_
            show Go p e below _ T57 (mkF m 233 #[.val (.int p0), .val (.int p1), .val (.int p2), .val (.int p3), .val (.int p4), .val (.int p5), .val (.int ki), .val (own_kind ki w0 w1 w2 w3 w4 w5), .val (.int lt), .val (.int t0), .val (.int t1), .val (.int o0), .val (.int o1), .val (.int lo), .val (.int (0 : Int32)), .val (.ref tx), .val (.ref ex), .val (.ref b33), .val (.int (own_want ki lt lo t0 t1 o0 o1)), .val (.int (0 : Int32)), .unset] [(.int (4 : Int32)), (.int ki)])
            by_cases hc87 : ki = (4 : Int32)
            · skip
              refine Go.of (fun _ => XS.icmpNo H58.here hx rfl (hb hby at_233) rfl (teq hc87).2) ?_
              show Go p e below _ T57 (mkF m 236 #[.val (.int p0), .val (.int p1), .val (.int p2), .val (.int p3), .val (.int p4), .val (.int p5), .val (.int ki), .val (own_kind ki w0 w1 w2 w3 w4 w5), .val (.int lt), .val (.int t0), .val (.int t1), .val (.int o0), .val (.int o1), .val (.int lo), .val (.int (0 : Int32)), .val (.ref tx), .val (.ref ex), .val (.ref b33), .val (.int (own_want ki lt lo t0 t1 o0 o1)), .val (.int (0 : Int32)), .unset] [])
              refine Go.of (fun _ => XS.iload H58.here hx rfl (hb hby at_236) rfl) ?_
              show Go p e below _ T57 (mkF m 238 #[.val (.int p0), .val (.int p1), .val (.int p2), .val (.int p3), .val (.int p4), .val (.int p5), .val (.int ki), .val (own_kind ki w0 w1 w2 w3 w4 w5), .val (.int lt), .val (.int t0), .val (.int t1), .val (.int o0), .val (.int o1), .val (.int lo), .val (.int (0 : Int32)), .val (.ref tx), .val (.ref ex), .val (.ref b33), .val (.int (own_want ki lt lo t0 t1 o0 o1)), .val (.int (0 : Int32)), .unset] [(.int (0 : Int32))])
              refine Go.of (fun _ => XS.ifYes H58.here hx rfl (pc0 := 238) (pc' := 245) rfl (hb hby at_238) rfl ((if0 _ _).trans (teq (by decide : (0 : Int32) = (0 : Int32))).1) (by decide) (by decide)) ?_
              show Go p e below _ T57 (mkF m 245 #[.val (.int p0), .val (.int p1), .val (.int p2), .val (.int p3), .val (.int p4), .val (.int p5), .val (.int ki), .val (own_kind ki w0 w1 w2 w3 w4 w5), .val (.int lt), .val (.int t0), .val (.int t1), .val (.int o0), .val (.int o1), .val (.int lo), .val (.int (0 : Int32)), .val (.ref tx), .val (.ref ex), .val (.ref b33), .val (.int (own_want ki lt lo t0 t1 o0 o1)), .val (.int (0 : Int32)), .unset] [])
              refine Go.of (fun _ => XS.iconst H58.here hx rfl (hb hby at_245)) ?_
              show Go p e below _ T57 (mkF m 246 #[.val (.int p0), .val (.int p1), .val (.int p2), .val (.int p3), .val (.int p4), .val (.int p5), .val (.int ki), .val (own_kind ki w0 w1 w2 w3 w4 w5), .val (.int lt), .val (.int t0), .val (.int t1), .val (.int o0), .val (.int o1), .val (.int lo), .val (.int (0 : Int32)), .val (.ref tx), .val (.ref ex), .val (.ref b33), .val (.int (own_want ki lt lo t0 t1 o0 o1)), .val (.int (0 : Int32)), .unset] [(.int (0 : Int32))])
              refine Go.of (fun _ => XS.istore H58.here hx rfl (hb hby at_246) rfl (l' := #[.val (.int p0), .val (.int p1), .val (.int p2), .val (.int p3), .val (.int p4), .val (.int p5), .val (.int ki), .val (own_kind ki w0 w1 w2 w3 w4 w5), .val (.int lt), .val (.int t0), .val (.int t1), .val (.int o0), .val (.int o1), .val (.int lo), .val (.int (0 : Int32)), .val (.ref tx), .val (.ref ex), .val (.ref b33), .val (.int (own_want ki lt lo t0 t1 o0 o1)), .val (.int (0 : Int32)), .val (.int (0 : Int32))]) rfl) ?_
              show Go p e below _ T57 (mkF m 248 #[.val (.int p0), .val (.int p1), .val (.int p2), .val (.int p3), .val (.int p4), .val (.int p5), .val (.int ki), .val (own_kind ki w0 w1 w2 w3 w4 w5), .val (.int lt), .val (.int t0), .val (.int t1), .val (.int o0), .val (.int o1), .val (.int lo), .val (.int (0 : Int32)), .val (.ref tx), .val (.ref ex), .val (.ref b33), .val (.int (own_want ki lt lo t0 t1 o0 o1)), .val (.int (0 : Int32)), .val (.int (0 : Int32))] [])
              refine Go.of (fun _ => XS.iload H58.here hx rfl (hb hby at_248) rfl) ?_
              show Go p e below _ T57 (mkF m 250 #[.val (.int p0), .val (.int p1), .val (.int p2), .val (.int p3), .val (.int p4), .val (.int p5), .val (.int ki), .val (own_kind ki w0 w1 w2 w3 w4 w5), .val (.int lt), .val (.int t0), .val (.int t1), .val (.int o0), .val (.int o1), .val (.int lo), .val (.int (0 : Int32)), .val (.ref tx), .val (.ref ex), .val (.ref b33), .val (.int (own_want ki lt lo t0 t1 o0 o1)), .val (.int (0 : Int32)), .val (.int (0 : Int32))] [(.int (own_want ki lt lo t0 t1 o0 o1))])
              refine Go.of (fun _ => XS.iload H58.here hx rfl (hb hby at_250) rfl) ?_
              show Go p e below _ T57 (mkF m 252 #[.val (.int p0), .val (.int p1), .val (.int p2), .val (.int p3), .val (.int p4), .val (.int p5), .val (.int ki), .val (own_kind ki w0 w1 w2 w3 w4 w5), .val (.int lt), .val (.int t0), .val (.int t1), .val (.int o0), .val (.int o1), .val (.int lo), .val (.int (0 : Int32)), .val (.ref tx), .val (.ref ex), .val (.ref b33), .val (.int (own_want ki lt lo t0 t1 o0 o1)), .val (.int (0 : Int32)), .val (.int (0 : Int32))] [(.int (0 : Int32)), (.int (own_want ki lt lo t0 t1 o0 o1))])
              rw [show (own_want ki lt lo t0 t1 o0 o1) = (0 : Int32) from if_neg (fun q => (fun q => hc65 q.1) q.2)]
              show Go p e below _ T57 (mkF m 252 #[.val (.int p0), .val (.int p1), .val (.int p2), .val (.int p3), .val (.int p4), .val (.int p5), .val (.int ki), .val (own_kind ki w0 w1 w2 w3 w4 w5), .val (.int lt), .val (.int t0), .val (.int t1), .val (.int o0), .val (.int o1), .val (.int lo), .val (.int (0 : Int32)), .val (.ref tx), .val (.ref ex), .val (.ref b33), .val (.int (0 : Int32)), .val (.int (0 : Int32)), .val (.int (0 : Int32))] [(.int (0 : Int32)), (.int (0 : Int32))])
              refine Go.of (fun _ => XS.icmpNo H58.here hx rfl (hb hby at_252) rfl (teq (by decide : (0 : Int32) = (0 : Int32))).2) ?_
              show Go p e below _ T57 (mkF m 255 #[.val (.int p0), .val (.int p1), .val (.int p2), .val (.int p3), .val (.int p4), .val (.int p5), .val (.int ki), .val (own_kind ki w0 w1 w2 w3 w4 w5), .val (.int lt), .val (.int t0), .val (.int t1), .val (.int o0), .val (.int o1), .val (.int lo), .val (.int (0 : Int32)), .val (.ref tx), .val (.ref ex), .val (.ref b33), .val (.int (0 : Int32)), .val (.int (0 : Int32)), .val (.int (0 : Int32))] [])
              refine Go.of (fun _ => XS.iconst H58.here hx rfl (hb hby at_255)) ?_
              show Go p e below _ T57 (mkF m 256 #[.val (.int p0), .val (.int p1), .val (.int p2), .val (.int p3), .val (.int p4), .val (.int p5), .val (.int ki), .val (own_kind ki w0 w1 w2 w3 w4 w5), .val (.int lt), .val (.int t0), .val (.int t1), .val (.int o0), .val (.int o1), .val (.int lo), .val (.int (0 : Int32)), .val (.ref tx), .val (.ref ex), .val (.ref b33), .val (.int (0 : Int32)), .val (.int (0 : Int32)), .val (.int (0 : Int32))] [(.int (1 : Int32))])
              refine Go.of (fun _ => XS.goto H58.here hx rfl (pc0 := 256) (pc' := 260) rfl (hb hby at_256) (by decide) (by decide)) ?_
              show Go p e below _ T57 (mkF m 260 #[.val (.int p0), .val (.int p1), .val (.int p2), .val (.int p3), .val (.int p4), .val (.int p5), .val (.int ki), .val (own_kind ki w0 w1 w2 w3 w4 w5), .val (.int lt), .val (.int t0), .val (.int t1), .val (.int o0), .val (.int o1), .val (.int lo), .val (.int (0 : Int32)), .val (.ref tx), .val (.ref ex), .val (.ref b33), .val (.int (0 : Int32)), .val (.int (0 : Int32)), .val (.int (0 : Int32))] [(.int (1 : Int32))])
              exact own_retN H58 hx hlk (t := .boolean) hret (by simp) (hb hby at_260) rfl (by decide) (by decide)
            · skip
              refine Go.of (fun _ => XS.icmpYes H58.here hx rfl (pc0 := 233) (pc' := 245) rfl (hb hby at_233) rfl (feq hc87).2 (by decide) (by decide)) ?_
              show Go p e below _ T57 (mkF m 245 #[.val (.int p0), .val (.int p1), .val (.int p2), .val (.int p3), .val (.int p4), .val (.int p5), .val (.int ki), .val (own_kind ki w0 w1 w2 w3 w4 w5), .val (.int lt), .val (.int t0), .val (.int t1), .val (.int o0), .val (.int o1), .val (.int lo), .val (.int (0 : Int32)), .val (.ref tx), .val (.ref ex), .val (.ref b33), .val (.int (own_want ki lt lo t0 t1 o0 o1)), .val (.int (0 : Int32)), .unset] [])
              refine Go.of (fun _ => XS.iconst H58.here hx rfl (hb hby at_245)) ?_
              show Go p e below _ T57 (mkF m 246 #[.val (.int p0), .val (.int p1), .val (.int p2), .val (.int p3), .val (.int p4), .val (.int p5), .val (.int ki), .val (own_kind ki w0 w1 w2 w3 w4 w5), .val (.int lt), .val (.int t0), .val (.int t1), .val (.int o0), .val (.int o1), .val (.int lo), .val (.int (0 : Int32)), .val (.ref tx), .val (.ref ex), .val (.ref b33), .val (.int (own_want ki lt lo t0 t1 o0 o1)), .val (.int (0 : Int32)), .unset] [(.int (0 : Int32))])
              refine Go.of (fun _ => XS.istore H58.here hx rfl (hb hby at_246) rfl (l' := #[.val (.int p0), .val (.int p1), .val (.int p2), .val (.int p3), .val (.int p4), .val (.int p5), .val (.int ki), .val (own_kind ki w0 w1 w2 w3 w4 w5), .val (.int lt), .val (.int t0), .val (.int t1), .val (.int o0), .val (.int o1), .val (.int lo), .val (.int (0 : Int32)), .val (.ref tx), .val (.ref ex), .val (.ref b33), .val (.int (own_want ki lt lo t0 t1 o0 o1)), .val (.int (0 : Int32)), .val (.int (0 : Int32))]) rfl) ?_
              show Go p e below _ T57 (mkF m 248 #[.val (.int p0), .val (.int p1), .val (.int p2), .val (.int p3), .val (.int p4), .val (.int p5), .val (.int ki), .val (own_kind ki w0 w1 w2 w3 w4 w5), .val (.int lt), .val (.int t0), .val (.int t1), .val (.int o0), .val (.int o1), .val (.int lo), .val (.int (0 : Int32)), .val (.ref tx), .val (.ref ex), .val (.ref b33), .val (.int (own_want ki lt lo t0 t1 o0 o1)), .val (.int (0 : Int32)), .val (.int (0 : Int32))] [])
              refine Go.of (fun _ => XS.iload H58.here hx rfl (hb hby at_248) rfl) ?_
              show Go p e below _ T57 (mkF m 250 #[.val (.int p0), .val (.int p1), .val (.int p2), .val (.int p3), .val (.int p4), .val (.int p5), .val (.int ki), .val (own_kind ki w0 w1 w2 w3 w4 w5), .val (.int lt), .val (.int t0), .val (.int t1), .val (.int o0), .val (.int o1), .val (.int lo), .val (.int (0 : Int32)), .val (.ref tx), .val (.ref ex), .val (.ref b33), .val (.int (own_want ki lt lo t0 t1 o0 o1)), .val (.int (0 : Int32)), .val (.int (0 : Int32))] [(.int (own_want ki lt lo t0 t1 o0 o1))])
              refine Go.of (fun _ => XS.iload H58.here hx rfl (hb hby at_250) rfl) ?_
              show Go p e below _ T57 (mkF m 252 #[.val (.int p0), .val (.int p1), .val (.int p2), .val (.int p3), .val (.int p4), .val (.int p5), .val (.int ki), .val (own_kind ki w0 w1 w2 w3 w4 w5), .val (.int lt), .val (.int t0), .val (.int t1), .val (.int o0), .val (.int o1), .val (.int lo), .val (.int (0 : Int32)), .val (.ref tx), .val (.ref ex), .val (.ref b33), .val (.int (own_want ki lt lo t0 t1 o0 o1)), .val (.int (0 : Int32)), .val (.int (0 : Int32))] [(.int (0 : Int32)), (.int (own_want ki lt lo t0 t1 o0 o1))])
              rw [show (own_want ki lt lo t0 t1 o0 o1) = (0 : Int32) from if_neg (fun q => (fun q => q.elim hc86 hc87) q.1)]
              show Go p e below _ T57 (mkF m 252 #[.val (.int p0), .val (.int p1), .val (.int p2), .val (.int p3), .val (.int p4), .val (.int p5), .val (.int ki), .val (own_kind ki w0 w1 w2 w3 w4 w5), .val (.int lt), .val (.int t0), .val (.int t1), .val (.int o0), .val (.int o1), .val (.int lo), .val (.int (0 : Int32)), .val (.ref tx), .val (.ref ex), .val (.ref b33), .val (.int (0 : Int32)), .val (.int (0 : Int32)), .val (.int (0 : Int32))] [(.int (0 : Int32)), (.int (0 : Int32))])
              refine Go.of (fun _ => XS.icmpNo H58.here hx rfl (hb hby at_252) rfl (teq (by decide : (0 : Int32) = (0 : Int32))).2) ?_
              show Go p e below _ T57 (mkF m 255 #[.val (.int p0), .val (.int p1), .val (.int p2), .val (.int p3), .val (.int p4), .val (.int p5), .val (.int ki), .val (own_kind ki w0 w1 w2 w3 w4 w5), .val (.int lt), .val (.int t0), .val (.int t1), .val (.int o0), .val (.int o1), .val (.int lo), .val (.int (0 : Int32)), .val (.ref tx), .val (.ref ex), .val (.ref b33), .val (.int (0 : Int32)), .val (.int (0 : Int32)), .val (.int (0 : Int32))] [])
              refine Go.of (fun _ => XS.iconst H58.here hx rfl (hb hby at_255)) ?_
              show Go p e below _ T57 (mkF m 256 #[.val (.int p0), .val (.int p1), .val (.int p2), .val (.int p3), .val (.int p4), .val (.int p5), .val (.int ki), .val (own_kind ki w0 w1 w2 w3 w4 w5), .val (.int lt), .val (.int t0), .val (.int t1), .val (.int o0), .val (.int o1), .val (.int lo), .val (.int (0 : Int32)), .val (.ref tx), .val (.ref ex), .val (.ref b33), .val (.int (0 : Int32)), .val (.int (0 : Int32)), .val (.int (0 : Int32))] [(.int (1 : Int32))])
              refine Go.of (fun _ => XS.goto H58.here hx rfl (pc0 := 256) (pc' := 260) rfl (hb hby at_256) (by decide) (by decide)) ?_
              show Go p e below _ T57 (mkF m 260 #[.val (.int p0), .val (.int p1), .val (.int p2), .val (.int p3), .val (.int p4), .val (.int p5), .val (.int ki), .val (own_kind ki w0 w1 w2 w3 w4 w5), .val (.int lt), .val (.int t0), .val (.int t1), .val (.int o0), .val (.int o1), .val (.int lo), .val (.int (0 : Int32)), .val (.ref tx), .val (.ref ex), .val (.ref b33), .val (.int (0 : Int32)), .val (.int (0 : Int32)), .val (.int (0 : Int32))] [(.int (1 : Int32))])
              exact own_retN H58 hx hlk (t := .boolean) hret (by simp) (hb hby at_260) rfl (by decide) (by decide)
      · skip
        subst hnu
        show Go p e below _ T11 (mkF m 136 #[.val (.int p0), .val (.int p1), .val (.int p2), .val (.int p3), .val (.int p4), .val (.int p5), .val (.int ki), .val (own_kind ki w0 w1 w2 w3 w4 w5), .val (.int lt), .val (.int t0), .val (.int t1), .val (.int o0), .val (.int o1), .val (.int lo), .val (.int (1 : Int32)), .val (.ref tx), .unset, .unset, .unset, .unset, .unset] [(.int (1 : Int32))])
        refine Go.of (fun _ => XS.ifNo H12.here hx rfl (hb hby at_136) rfl ((if0 _ _).trans (feq (by decide : ¬ ((1 : Int32) = (0 : Int32)))).1)) ?_
        show Go p e below _ T11 (mkF m 139 #[.val (.int p0), .val (.int p1), .val (.int p2), .val (.int p3), .val (.int p4), .val (.int p5), .val (.int ki), .val (own_kind ki w0 w1 w2 w3 w4 w5), .val (.int lt), .val (.int t0), .val (.int t1), .val (.int o0), .val (.int o1), .val (.int lo), .val (.int (1 : Int32)), .val (.ref tx), .unset, .unset, .unset, .unset, .unset] [])
        refine Go.of (fun _ => XS.aconstNull H12.here hx rfl (hb hby at_139)) ?_
        show Go p e below _ T11 (mkF m 140 #[.val (.int p0), .val (.int p1), .val (.int p2), .val (.int p3), .val (.int p4), .val (.int p5), .val (.int ki), .val (own_kind ki w0 w1 w2 w3 w4 w5), .val (.int lt), .val (.int t0), .val (.int t1), .val (.int o0), .val (.int o1), .val (.int lo), .val (.int (1 : Int32)), .val (.ref tx), .unset, .unset, .unset, .unset, .unset] [.null])
        refine Go.of (fun _ => XS.goto H12.here hx rfl (pc0 := 140) (pc' := 152) rfl (hb hby at_140) (by decide) (by decide)) ?_
        show Go p e below _ T11 (mkF m 152 #[.val (.int p0), .val (.int p1), .val (.int p2), .val (.int p3), .val (.int p4), .val (.int p5), .val (.int ki), .val (own_kind ki w0 w1 w2 w3 w4 w5), .val (.int lt), .val (.int t0), .val (.int t1), .val (.int o0), .val (.int o1), .val (.int lo), .val (.int (1 : Int32)), .val (.ref tx), .unset, .unset, .unset, .unset, .unset] [.null])
        refine Go.of (fun _ => XS.astore H12.here hx rfl (hb hby at_152) rfl rfl (l' := #[.val (.int p0), .val (.int p1), .val (.int p2), .val (.int p3), .val (.int p4), .val (.int p5), .val (.int ki), .val (own_kind ki w0 w1 w2 w3 w4 w5), .val (.int lt), .val (.int t0), .val (.int t1), .val (.int o0), .val (.int o1), .val (.int lo), .val (.int (1 : Int32)), .val (.ref tx), .val .null, .unset, .unset, .unset, .unset]) rfl) ?_
        show Go p e below _ T11 (mkF m 154 #[.val (.int p0), .val (.int p1), .val (.int p2), .val (.int p3), .val (.int p4), .val (.int p5), .val (.int ki), .val (own_kind ki w0 w1 w2 w3 w4 w5), .val (.int lt), .val (.int t0), .val (.int t1), .val (.int o0), .val (.int o1), .val (.int lo), .val (.int (1 : Int32)), .val (.ref tx), .val .null, .unset, .unset, .unset, .unset] [])
        refine own_new H12 hx hown (ow hw 33 rfl) (ow hw 34 rfl) (ow hw 35 rfl) rfl (hb hby at_154) (by decide) (by decide) fun T88 h90 b91 g92 H89 E93 A94 D95 => ?_
        have fr96 : Z.heap.size ≤ b91 := by rw [g92]; exact H12.old.1
        have S97 := S18.ext E93
        have f98 : Fld Z h90 b91 "com/example/entitled/entitled/lang/Token" "kind" "Lcom/example/entitled/entitled/lang/Token$Kind;" .null := D95 (Or.inr (ow hw 46 rfl)) (ty := (.object "com/example/entitled/entitled/lang/Token$Kind")) (by decide)
        have f99 : Fld Z h90 b91 "com/example/entitled/entitled/lang/Token" "text" "Ljava/lang/String;" .null := D95 (Or.inr (ow hw 48 rfl)) (ty := (.object "java/lang/String")) (by decide)
        have f100 : Fld Z h90 b91 "com/example/entitled/entitled/lang/Token" "line" "I" (.int (0 : Int32)) := D95 (Or.inr (ow hw 50 rfl)) (ty := .int) (by decide)
        have f101 : Fld Z h90 b91 "com/example/entitled/entitled/lang/Token" "column" "I" (.int (0 : Int32)) := D95 (Or.inr (ow hw 52 rfl)) (ty := .int) (by decide)
        show Go p e below _ T88 (mkF m 157 #[.val (.int p0), .val (.int p1), .val (.int p2), .val (.int p3), .val (.int p4), .val (.int p5), .val (.int ki), .val (own_kind ki w0 w1 w2 w3 w4 w5), .val (.int lt), .val (.int t0), .val (.int t1), .val (.int o0), .val (.int o1), .val (.int lo), .val (.int (1 : Int32)), .val (.ref tx), .val .null, .unset, .unset, .unset, .unset] [(.ref b91)])
        refine Go.of (fun _ => XS.dup H89.here hx rfl (hb hby at_157) rfl rfl) ?_
        show Go p e below _ T88 (mkF m 158 #[.val (.int p0), .val (.int p1), .val (.int p2), .val (.int p3), .val (.int p4), .val (.int p5), .val (.int ki), .val (own_kind ki w0 w1 w2 w3 w4 w5), .val (.int lt), .val (.int t0), .val (.int t1), .val (.int o0), .val (.int o1), .val (.int lo), .val (.int (1 : Int32)), .val (.ref tx), .val .null, .unset, .unset, .unset, .unset] [(.ref b91), (.ref b91)])
        refine Go.of (fun _ => XS.aload H89.here hx rfl (hb hby at_158) rfl (own_kind_ref _ _ _ _ _ _ _)) ?_
        show Go p e below _ T88 (mkF m 160 #[.val (.int p0), .val (.int p1), .val (.int p2), .val (.int p3), .val (.int p4), .val (.int p5), .val (.int ki), .val (own_kind ki w0 w1 w2 w3 w4 w5), .val (.int lt), .val (.int t0), .val (.int t1), .val (.int o0), .val (.int o1), .val (.int lo), .val (.int (1 : Int32)), .val (.ref tx), .val .null, .unset, .unset, .unset, .unset] [(own_kind ki w0 w1 w2 w3 w4 w5), (.ref b91), (.ref b91)])
        refine Go.of (fun _ => XS.aload H89.here hx rfl (hb hby at_160) rfl rfl) ?_
        show Go p e below _ T88 (mkF m 162 #[.val (.int p0), .val (.int p1), .val (.int p2), .val (.int p3), .val (.int p4), .val (.int p5), .val (.int ki), .val (own_kind ki w0 w1 w2 w3 w4 w5), .val (.int lt), .val (.int t0), .val (.int t1), .val (.int o0), .val (.int o1), .val (.int lo), .val (.int (1 : Int32)), .val (.ref tx), .val .null, .unset, .unset, .unset, .unset] [(.ref tx), (own_kind ki w0 w1 w2 w3 w4 w5), (.ref b91), (.ref b91)])
        refine Go.of (fun _ => XS.iload H89.here hx rfl (hb hby at_162) rfl) ?_
        show Go p e below _ T88 (mkF m 164 #[.val (.int p0), .val (.int p1), .val (.int p2), .val (.int p3), .val (.int p4), .val (.int p5), .val (.int ki), .val (own_kind ki w0 w1 w2 w3 w4 w5), .val (.int lt), .val (.int t0), .val (.int t1), .val (.int o0), .val (.int o1), .val (.int lo), .val (.int (1 : Int32)), .val (.ref tx), .val .null, .unset, .unset, .unset, .unset] [(.int p4), (.ref tx), (own_kind ki w0 w1 w2 w3 w4 w5), (.ref b91), (.ref b91)])
        refine Go.of (fun _ => XS.iloadN H89.here hx rfl (hb hby at_164) rfl) ?_
        show Go p e below _ T88 (mkF m 165 #[.val (.int p0), .val (.int p1), .val (.int p2), .val (.int p3), .val (.int p4), .val (.int p5), .val (.int ki), .val (own_kind ki w0 w1 w2 w3 w4 w5), .val (.int lt), .val (.int t0), .val (.int t1), .val (.int o0), .val (.int o1), .val (.int lo), .val (.int (1 : Int32)), .val (.ref tx), .val .null, .unset, .unset, .unset, .unset] [(.int p0), (.int p4), (.ref tx), (own_kind ki w0 w1 w2 w3 w4 w5), (.ref b91), (.ref b91)])
        refine own_specialW H89 hx (y := (⟨"com/example/entitled/entitled/lang/Token", "<init>", "(Lcom/example/entitled/entitled/lang/Token$Kind;Ljava/lang/String;II)V"⟩ : MethodName)) rfl hown (ow hw 36 rfl) (ow hw 37 rfl) (ow hw 35 rfl) (ow hw 38 rfl) (by decide) (W := 1) (rm_ti l Z a0 hw hE b91 (own_kind ki w0 w1 w2 w3 w4 w5) tx p4 p0 h90 H89.old (own_kind_ref _ _ _ _ _ _ _) A94 f98 f99 f100 f101 fr96) (fun _ hq => nomatch hq) (by decide) (by decide) rfl (by rw [hml]; rfl) (a := b91) (argsL := [(own_kind ki w0 w1 w2 w3 w4 w5), (.ref tx), (.int p4), (.int p0)]) (rest := [(.ref b91)]) rfl (lenOf pd_8 rfl) rfl (by show 2 * 0 + _ ≤ _; exact Nat.le_of_eq rfl) (hb hby at_165) (by decide) (by decide) fun T102 h104 v106 H103 hs107 q105 => ?_
        obtain ⟨rfl, K108, E109, F110, F111⟩ := q105
        have S112 := S97.keep (a0 := a0) K108 (allS ⟨_, _, A94, by decide, (ow hw 34 rfl)⟩ all0)
        show Go p e below _ T102 (mkF m 168 #[.val (.int p0), .val (.int p1), .val (.int p2), .val (.int p3), .val (.int p4), .val (.int p5), .val (.int ki), .val (own_kind ki w0 w1 w2 w3 w4 w5), .val (.int lt), .val (.int t0), .val (.int t1), .val (.int o0), .val (.int o1), .val (.int lo), .val (.int (1 : Int32)), .val (.ref tx), .val .null, .unset, .unset, .unset, .unset] [(.ref b91)])
        refine Go.of (fun _ => XS.astore H103.here hx rfl (hb hby at_168) rfl rfl (l' := #[.val (.int p0), .val (.int p1), .val (.int p2), .val (.int p3), .val (.int p4), .val (.int p5), .val (.int ki), .val (own_kind ki w0 w1 w2 w3 w4 w5), .val (.int lt), .val (.int t0), .val (.int t1), .val (.int o0), .val (.int o1), .val (.int lo), .val (.int (1 : Int32)), .val (.ref tx), .val .null, .val (.ref b91), .unset, .unset, .unset]) rfl) ?_
        show Go p e below _ T102 (mkF m 170 #[.val (.int p0), .val (.int p1), .val (.int p2), .val (.int p3), .val (.int p4), .val (.int p5), .val (.int ki), .val (own_kind ki w0 w1 w2 w3 w4 w5), .val (.int lt), .val (.int t0), .val (.int t1), .val (.int o0), .val (.int o1), .val (.int lo), .val (.int (1 : Int32)), .val (.ref tx), .val .null, .val (.ref b91), .unset, .unset, .unset] [])
        refine Go.of (fun _ => XS.aload H103.here hx rfl (hb hby at_170) rfl rfl) ?_
        show Go p e below _ T102 (mkF m 172 #[.val (.int p0), .val (.int p1), .val (.int p2), .val (.int p3), .val (.int p4), .val (.int p5), .val (.int ki), .val (own_kind ki w0 w1 w2 w3 w4 w5), .val (.int lt), .val (.int t0), .val (.int t1), .val (.int o0), .val (.int o1), .val (.int lo), .val (.int (1 : Int32)), .val (.ref tx), .val .null, .val (.ref b91), .unset, .unset, .unset] [(.ref b91)])
        refine Go.of (fun _ => XS.aload H103.here hx rfl (hb hby at_172) rfl rfl) ?_
        show Go p e below _ T102 (mkF m 174 #[.val (.int p0), .val (.int p1), .val (.int p2), .val (.int p3), .val (.int p4), .val (.int p5), .val (.int ki), .val (own_kind ki w0 w1 w2 w3 w4 w5), .val (.int lt), .val (.int t0), .val (.int t1), .val (.int o0), .val (.int o1), .val (.int lo), .val (.int (1 : Int32)), .val (.ref tx), .val .null, .val (.ref b91), .unset, .unset, .unset] [.null, (.ref b91)])
        refine own_virtualW H103 hx (y := (⟨"com/example/entitled/entitled/lang/Token", "isOperator", "(Ljava/lang/String;)Z"⟩ : MethodName)) (z := (⟨"com/example/entitled/entitled/lang/Token", "isOperator", "(Ljava/lang/String;)Z"⟩ : MethodName)) hown (ow hw 53 rfl) (ow hw 54 rfl) (own_nf (ow hw 56 rfl) rfl) (ow hw 56 rfl) (ow hw 55 rfl) (ow hw 35 rfl) (ow hw 57 rfl) (by decide) (W := 0) (rm_opN l Z a0 hw hE b91 (own_kind ki w0 w1 w2 w3 w4 w5) tx (own_cs lt t0 t1) zc w4 w1 h104 H103.old (own_kind_ref _ _ _ _ _ _ _) E109 F110 F111 S112 (own_cslen _ _ _) SC hzc S4 S1) (fun _ hq => nomatch hq) (by decide) (by decide) E109 rfl (by rw [hml]; rfl) (argsL := [.null]) (rest := []) rfl (lenOf pd_5 rfl) rfl (by show 2 * 0 + _ ≤ _; exact Nat.le_of_eq rfl) (hb hby at_174) (by decide) (by decide) fun T113 h115 v117 H114 hs118 q116 => ?_
        obtain ⟨ve120, e119⟩ := q116
        subst e119
        subst ve120
        show Go p e below _ T113 (mkF m 177 #[.val (.int p0), .val (.int p1), .val (.int p2), .val (.int p3), .val (.int p4), .val (.int p5), .val (.int ki), .val (own_kind ki w0 w1 w2 w3 w4 w5), .val (.int lt), .val (.int t0), .val (.int t1), .val (.int o0), .val (.int o1), .val (.int lo), .val (.int (1 : Int32)), .val (.ref tx), .val .null, .val (.ref b91), .unset, .unset, .unset] [(.int (0 : Int32))])
        refine Go.of (fun _ => XS.istore H114.here hx rfl (hb hby at_177) rfl (l' := #[.val (.int p0), .val (.int p1), .val (.int p2), .val (.int p3), .val (.int p4), .val (.int p5), .val (.int ki), .val (own_kind ki w0 w1 w2 w3 w4 w5), .val (.int lt), .val (.int t0), .val (.int t1), .val (.int o0), .val (.int o1), .val (.int lo), .val (.int (1 : Int32)), .val (.ref tx), .val .null, .val (.ref b91), .val (.int (0 : Int32)), .unset, .unset]) rfl) ?_
        show Go p e below _ T113 (mkF m 179 #[.val (.int p0), .val (.int p1), .val (.int p2), .val (.int p3), .val (.int p4), .val (.int p5), .val (.int ki), .val (own_kind ki w0 w1 w2 w3 w4 w5), .val (.int lt), .val (.int t0), .val (.int t1), .val (.int o0), .val (.int o1), .val (.int lo), .val (.int (1 : Int32)), .val (.ref tx), .val .null, .val (.ref b91), .val (.int (0 : Int32)), .unset, .unset] [])
        refine Go.of (fun _ => XS.iload H114.here hx rfl (hb hby at_179) rfl) ?_
        show Go p e below _ T113 (mkF m 181 #[.val (.int p0), .val (.int p1), .val (.int p2), .val (.int p3), .val (.int p4), .val (.int p5), .val (.int ki), .val (own_kind ki w0 w1 w2 w3 w4 w5), .val (.int lt), .val (.int t0), .val (.int t1), .val (.int o0), .val (.int o1), .val (.int lo), .val (.int (1 : Int32)), .val (.ref tx), .val .null, .val (.ref b91), .val (.int (0 : Int32)), .unset, .unset] [(.int (1 : Int32))])
        refine Go.of (fun _ => XS.ifYes H114.here hx rfl (pc0 := 181) (pc' := 221) rfl (hb hby at_181) rfl ((if0 _ _).trans (feq (by decide : ¬ ((1 : Int32) = (0 : Int32)))).2) (by decide) (by decide)) ?_
        show Go p e below _ T113 (mkF m 221 #[.val (.int p0), .val (.int p1), .val (.int p2), .val (.int p3), .val (.int p4), .val (.int p5), .val (.int ki), .val (own_kind ki w0 w1 w2 w3 w4 w5), .val (.int lt), .val (.int t0), .val (.int t1), .val (.int o0), .val (.int o1), .val (.int lo), .val (.int (1 : Int32)), .val (.ref tx), .val .null, .val (.ref b91), .val (.int (0 : Int32)), .unset, .unset] [])
        refine Go.of (fun _ => XS.iconst H114.here hx rfl (hb hby at_221)) ?_
        show Go p e below _ T113 (mkF m 222 #[.val (.int p0), .val (.int p1), .val (.int p2), .val (.int p3), .val (.int p4), .val (.int p5), .val (.int ki), .val (own_kind ki w0 w1 w2 w3 w4 w5), .val (.int lt), .val (.int t0), .val (.int t1), .val (.int o0), .val (.int o1), .val (.int lo), .val (.int (1 : Int32)), .val (.ref tx), .val .null, .val (.ref b91), .val (.int (0 : Int32)), .unset, .unset] [(.int (0 : Int32))])
        refine Go.of (fun _ => XS.istore H114.here hx rfl (hb hby at_222) rfl (l' := #[.val (.int p0), .val (.int p1), .val (.int p2), .val (.int p3), .val (.int p4), .val (.int p5), .val (.int ki), .val (own_kind ki w0 w1 w2 w3 w4 w5), .val (.int lt), .val (.int t0), .val (.int t1), .val (.int o0), .val (.int o1), .val (.int lo), .val (.int (1 : Int32)), .val (.ref tx), .val .null, .val (.ref b91), .val (.int (0 : Int32)), .val (.int (0 : Int32)), .unset]) rfl) ?_
        show Go p e below _ T113 (mkF m 224 #[.val (.int p0), .val (.int p1), .val (.int p2), .val (.int p3), .val (.int p4), .val (.int p5), .val (.int ki), .val (own_kind ki w0 w1 w2 w3 w4 w5), .val (.int lt), .val (.int t0), .val (.int t1), .val (.int o0), .val (.int o1), .val (.int lo), .val (.int (1 : Int32)), .val (.ref tx), .val .null, .val (.ref b91), .val (.int (0 : Int32)), .val (.int (0 : Int32)), .unset] [])
        refine Go.of (fun _ => XS.iload H114.here hx rfl (hb hby at_224) rfl) ?_
        show Go p e below _ T113 (mkF m 226 #[.val (.int p0), .val (.int p1), .val (.int p2), .val (.int p3), .val (.int p4), .val (.int p5), .val (.int ki), .val (own_kind ki w0 w1 w2 w3 w4 w5), .val (.int lt), .val (.int t0), .val (.int t1), .val (.int o0), .val (.int o1), .val (.int lo), .val (.int (1 : Int32)), .val (.ref tx), .val .null, .val (.ref b91), .val (.int (0 : Int32)), .val (.int (0 : Int32)), .unset] [(.int ki)])
        refine Go.of (fun _ => XS.iconst H114.here hx rfl (hb hby at_226)) ?_
        show Go p e below _ T113 (mkF m 227 #[.val (.int p0), .val (.int p1), .val (.int p2), .val (.int p3), .val (.int p4), .val (.int p5), .val (.int ki), .val (own_kind ki w0 w1 w2 w3 w4 w5), .val (.int lt), .val (.int t0), .val (.int t1), .val (.int o0), .val (.int o1), .val (.int lo), .val (.int (1 : Int32)), .val (.ref tx), .val .null, .val (.ref b91), .val (.int (0 : Int32)), .val (.int (0 : Int32)), .unset] [(.int (1 : Int32)), (.int ki)])
        by_cases hc121 : ki = (1 : Int32)
        · skip
          refine Go.of (fun _ => XS.icmpYes H114.here hx rfl (pc0 := 227) (pc' := 236) rfl (hb hby at_227) rfl (teq hc121).1 (by decide) (by decide)) ?_
          show Go p e below _ T113 (mkF m 236 #[.val (.int p0), .val (.int p1), .val (.int p2), .val (.int p3), .val (.int p4), .val (.int p5), .val (.int ki), .val (own_kind ki w0 w1 w2 w3 w4 w5), .val (.int lt), .val (.int t0), .val (.int t1), .val (.int o0), .val (.int o1), .val (.int lo), .val (.int (1 : Int32)), .val (.ref tx), .val .null, .val (.ref b91), .val (.int (0 : Int32)), .val (.int (0 : Int32)), .unset] [])
          refine Go.of (fun _ => XS.iload H114.here hx rfl (hb hby at_236) rfl) ?_
          show Go p e below _ T113 (mkF m 238 #[.val (.int p0), .val (.int p1), .val (.int p2), .val (.int p3), .val (.int p4), .val (.int p5), .val (.int ki), .val (own_kind ki w0 w1 w2 w3 w4 w5), .val (.int lt), .val (.int t0), .val (.int t1), .val (.int o0), .val (.int o1), .val (.int lo), .val (.int (1 : Int32)), .val (.ref tx), .val .null, .val (.ref b91), .val (.int (0 : Int32)), .val (.int (0 : Int32)), .unset] [(.int (0 : Int32))])
          refine Go.of (fun _ => XS.ifYes H114.here hx rfl (pc0 := 238) (pc' := 245) rfl (hb hby at_238) rfl ((if0 _ _).trans (teq (by decide : (0 : Int32) = (0 : Int32))).1) (by decide) (by decide)) ?_
          show Go p e below _ T113 (mkF m 245 #[.val (.int p0), .val (.int p1), .val (.int p2), .val (.int p3), .val (.int p4), .val (.int p5), .val (.int ki), .val (own_kind ki w0 w1 w2 w3 w4 w5), .val (.int lt), .val (.int t0), .val (.int t1), .val (.int o0), .val (.int o1), .val (.int lo), .val (.int (1 : Int32)), .val (.ref tx), .val .null, .val (.ref b91), .val (.int (0 : Int32)), .val (.int (0 : Int32)), .unset] [])
          refine Go.of (fun _ => XS.iconst H114.here hx rfl (hb hby at_245)) ?_
          show Go p e below _ T113 (mkF m 246 #[.val (.int p0), .val (.int p1), .val (.int p2), .val (.int p3), .val (.int p4), .val (.int p5), .val (.int ki), .val (own_kind ki w0 w1 w2 w3 w4 w5), .val (.int lt), .val (.int t0), .val (.int t1), .val (.int o0), .val (.int o1), .val (.int lo), .val (.int (1 : Int32)), .val (.ref tx), .val .null, .val (.ref b91), .val (.int (0 : Int32)), .val (.int (0 : Int32)), .unset] [(.int (0 : Int32))])
          refine Go.of (fun _ => XS.istore H114.here hx rfl (hb hby at_246) rfl (l' := #[.val (.int p0), .val (.int p1), .val (.int p2), .val (.int p3), .val (.int p4), .val (.int p5), .val (.int ki), .val (own_kind ki w0 w1 w2 w3 w4 w5), .val (.int lt), .val (.int t0), .val (.int t1), .val (.int o0), .val (.int o1), .val (.int lo), .val (.int (1 : Int32)), .val (.ref tx), .val .null, .val (.ref b91), .val (.int (0 : Int32)), .val (.int (0 : Int32)), .val (.int (0 : Int32))]) rfl) ?_
          show Go p e below _ T113 (mkF m 248 #[.val (.int p0), .val (.int p1), .val (.int p2), .val (.int p3), .val (.int p4), .val (.int p5), .val (.int ki), .val (own_kind ki w0 w1 w2 w3 w4 w5), .val (.int lt), .val (.int t0), .val (.int t1), .val (.int o0), .val (.int o1), .val (.int lo), .val (.int (1 : Int32)), .val (.ref tx), .val .null, .val (.ref b91), .val (.int (0 : Int32)), .val (.int (0 : Int32)), .val (.int (0 : Int32))] [])
          refine Go.of (fun _ => XS.iload H114.here hx rfl (hb hby at_248) rfl) ?_
          show Go p e below _ T113 (mkF m 250 #[.val (.int p0), .val (.int p1), .val (.int p2), .val (.int p3), .val (.int p4), .val (.int p5), .val (.int ki), .val (own_kind ki w0 w1 w2 w3 w4 w5), .val (.int lt), .val (.int t0), .val (.int t1), .val (.int o0), .val (.int o1), .val (.int lo), .val (.int (1 : Int32)), .val (.ref tx), .val .null, .val (.ref b91), .val (.int (0 : Int32)), .val (.int (0 : Int32)), .val (.int (0 : Int32))] [(.int (0 : Int32))])
          refine Go.of (fun _ => XS.iload H114.here hx rfl (hb hby at_250) rfl) ?_
          show Go p e below _ T113 (mkF m 252 #[.val (.int p0), .val (.int p1), .val (.int p2), .val (.int p3), .val (.int p4), .val (.int p5), .val (.int ki), .val (own_kind ki w0 w1 w2 w3 w4 w5), .val (.int lt), .val (.int t0), .val (.int t1), .val (.int o0), .val (.int o1), .val (.int lo), .val (.int (1 : Int32)), .val (.ref tx), .val .null, .val (.ref b91), .val (.int (0 : Int32)), .val (.int (0 : Int32)), .val (.int (0 : Int32))] [(.int (0 : Int32)), (.int (0 : Int32))])
          refine Go.of (fun _ => XS.icmpNo H114.here hx rfl (hb hby at_252) rfl (teq (by decide : (0 : Int32) = (0 : Int32))).2) ?_
          show Go p e below _ T113 (mkF m 255 #[.val (.int p0), .val (.int p1), .val (.int p2), .val (.int p3), .val (.int p4), .val (.int p5), .val (.int ki), .val (own_kind ki w0 w1 w2 w3 w4 w5), .val (.int lt), .val (.int t0), .val (.int t1), .val (.int o0), .val (.int o1), .val (.int lo), .val (.int (1 : Int32)), .val (.ref tx), .val .null, .val (.ref b91), .val (.int (0 : Int32)), .val (.int (0 : Int32)), .val (.int (0 : Int32))] [])
          refine Go.of (fun _ => XS.iconst H114.here hx rfl (hb hby at_255)) ?_
          show Go p e below _ T113 (mkF m 256 #[.val (.int p0), .val (.int p1), .val (.int p2), .val (.int p3), .val (.int p4), .val (.int p5), .val (.int ki), .val (own_kind ki w0 w1 w2 w3 w4 w5), .val (.int lt), .val (.int t0), .val (.int t1), .val (.int o0), .val (.int o1), .val (.int lo), .val (.int (1 : Int32)), .val (.ref tx), .val .null, .val (.ref b91), .val (.int (0 : Int32)), .val (.int (0 : Int32)), .val (.int (0 : Int32))] [(.int (1 : Int32))])
          refine Go.of (fun _ => XS.goto H114.here hx rfl (pc0 := 256) (pc' := 260) rfl (hb hby at_256) (by decide) (by decide)) ?_
          show Go p e below _ T113 (mkF m 260 #[.val (.int p0), .val (.int p1), .val (.int p2), .val (.int p3), .val (.int p4), .val (.int p5), .val (.int ki), .val (own_kind ki w0 w1 w2 w3 w4 w5), .val (.int lt), .val (.int t0), .val (.int t1), .val (.int o0), .val (.int o1), .val (.int lo), .val (.int (1 : Int32)), .val (.ref tx), .val .null, .val (.ref b91), .val (.int (0 : Int32)), .val (.int (0 : Int32)), .val (.int (0 : Int32))] [(.int (1 : Int32))])
          exact own_retN H114 hx hlk (t := .boolean) hret (by simp) (hb hby at_260) rfl (by decide) (by decide)
        · skip
          refine Go.of (fun _ => XS.icmpNo H114.here hx rfl (hb hby at_227) rfl (feq hc121).1) ?_
          show Go p e below _ T113 (mkF m 230 #[.val (.int p0), .val (.int p1), .val (.int p2), .val (.int p3), .val (.int p4), .val (.int p5), .val (.int ki), .val (own_kind ki w0 w1 w2 w3 w4 w5), .val (.int lt), .val (.int t0), .val (.int t1), .val (.int o0), .val (.int o1), .val (.int lo), .val (.int (1 : Int32)), .val (.ref tx), .val .null, .val (.ref b91), .val (.int (0 : Int32)), .val (.int (0 : Int32)), .unset] [])
          refine Go.of (fun _ => XS.iload H114.here hx rfl (hb hby at_230) rfl) ?_
          show Go p e below _ T113 (mkF m 232 #[.val (.int p0), .val (.int p1), .val (.int p2), .val (.int p3), .val (.int p4), .val (.int p5), .val (.int ki), .val (own_kind ki w0 w1 w2 w3 w4 w5), .val (.int lt), .val (.int t0), .val (.int t1), .val (.int o0), .val (.int o1), .val (.int lo), .val (.int (1 : Int32)), .val (.ref tx), .val .null, .val (.ref b91), .val (.int (0 : Int32)), .val (.int (0 : Int32)), .unset] [(.int ki)])
          refine Go.of (fun _ => XS.iconst H114.here hx rfl (hb hby at_232)) ?_
          show Go p e below _ T113 (mkF m 233 #[.val (.int p0), .val (.int p1), .val (.int p2), .val (.int p3), .val (.int p4), .val (.int p5), .val (.int ki), .val (own_kind ki w0 w1 w2 w3 w4 w5), .val (.int lt), .val (.int t0), .val (.int t1), .val (.int o0), .val (.int o1), .val (.int lo), .val (.int (1 : Int32)), .val (.ref tx), .val .null, .val (.ref b91), .val (.int (0 : Int32)), .val (.int (0 : Int32)), .unset] [(.int (4 : Int32)), (.int ki)])
          by_cases hc122 : ki = (4 : Int32)
          · skip
            refine Go.of (fun _ => XS.icmpNo H114.here hx rfl (hb hby at_233) rfl (teq hc122).2) ?_
            show Go p e below _ T113 (mkF m 236 #[.val (.int p0), .val (.int p1), .val (.int p2), .val (.int p3), .val (.int p4), .val (.int p5), .val (.int ki), .val (own_kind ki w0 w1 w2 w3 w4 w5), .val (.int lt), .val (.int t0), .val (.int t1), .val (.int o0), .val (.int o1), .val (.int lo), .val (.int (1 : Int32)), .val (.ref tx), .val .null, .val (.ref b91), .val (.int (0 : Int32)), .val (.int (0 : Int32)), .unset] [])
            refine Go.of (fun _ => XS.iload H114.here hx rfl (hb hby at_236) rfl) ?_
            show Go p e below _ T113 (mkF m 238 #[.val (.int p0), .val (.int p1), .val (.int p2), .val (.int p3), .val (.int p4), .val (.int p5), .val (.int ki), .val (own_kind ki w0 w1 w2 w3 w4 w5), .val (.int lt), .val (.int t0), .val (.int t1), .val (.int o0), .val (.int o1), .val (.int lo), .val (.int (1 : Int32)), .val (.ref tx), .val .null, .val (.ref b91), .val (.int (0 : Int32)), .val (.int (0 : Int32)), .unset] [(.int (0 : Int32))])
            refine Go.of (fun _ => XS.ifYes H114.here hx rfl (pc0 := 238) (pc' := 245) rfl (hb hby at_238) rfl ((if0 _ _).trans (teq (by decide : (0 : Int32) = (0 : Int32))).1) (by decide) (by decide)) ?_
            show Go p e below _ T113 (mkF m 245 #[.val (.int p0), .val (.int p1), .val (.int p2), .val (.int p3), .val (.int p4), .val (.int p5), .val (.int ki), .val (own_kind ki w0 w1 w2 w3 w4 w5), .val (.int lt), .val (.int t0), .val (.int t1), .val (.int o0), .val (.int o1), .val (.int lo), .val (.int (1 : Int32)), .val (.ref tx), .val .null, .val (.ref b91), .val (.int (0 : Int32)), .val (.int (0 : Int32)), .unset] [])
            refine Go.of (fun _ => XS.iconst H114.here hx rfl (hb hby at_245)) ?_
            show Go p e below _ T113 (mkF m 246 #[.val (.int p0), .val (.int p1), .val (.int p2), .val (.int p3), .val (.int p4), .val (.int p5), .val (.int ki), .val (own_kind ki w0 w1 w2 w3 w4 w5), .val (.int lt), .val (.int t0), .val (.int t1), .val (.int o0), .val (.int o1), .val (.int lo), .val (.int (1 : Int32)), .val (.ref tx), .val .null, .val (.ref b91), .val (.int (0 : Int32)), .val (.int (0 : Int32)), .unset] [(.int (0 : Int32))])
            refine Go.of (fun _ => XS.istore H114.here hx rfl (hb hby at_246) rfl (l' := #[.val (.int p0), .val (.int p1), .val (.int p2), .val (.int p3), .val (.int p4), .val (.int p5), .val (.int ki), .val (own_kind ki w0 w1 w2 w3 w4 w5), .val (.int lt), .val (.int t0), .val (.int t1), .val (.int o0), .val (.int o1), .val (.int lo), .val (.int (1 : Int32)), .val (.ref tx), .val .null, .val (.ref b91), .val (.int (0 : Int32)), .val (.int (0 : Int32)), .val (.int (0 : Int32))]) rfl) ?_
            show Go p e below _ T113 (mkF m 248 #[.val (.int p0), .val (.int p1), .val (.int p2), .val (.int p3), .val (.int p4), .val (.int p5), .val (.int ki), .val (own_kind ki w0 w1 w2 w3 w4 w5), .val (.int lt), .val (.int t0), .val (.int t1), .val (.int o0), .val (.int o1), .val (.int lo), .val (.int (1 : Int32)), .val (.ref tx), .val .null, .val (.ref b91), .val (.int (0 : Int32)), .val (.int (0 : Int32)), .val (.int (0 : Int32))] [])
            refine Go.of (fun _ => XS.iload H114.here hx rfl (hb hby at_248) rfl) ?_
            show Go p e below _ T113 (mkF m 250 #[.val (.int p0), .val (.int p1), .val (.int p2), .val (.int p3), .val (.int p4), .val (.int p5), .val (.int ki), .val (own_kind ki w0 w1 w2 w3 w4 w5), .val (.int lt), .val (.int t0), .val (.int t1), .val (.int o0), .val (.int o1), .val (.int lo), .val (.int (1 : Int32)), .val (.ref tx), .val .null, .val (.ref b91), .val (.int (0 : Int32)), .val (.int (0 : Int32)), .val (.int (0 : Int32))] [(.int (0 : Int32))])
            refine Go.of (fun _ => XS.iload H114.here hx rfl (hb hby at_250) rfl) ?_
            show Go p e below _ T113 (mkF m 252 #[.val (.int p0), .val (.int p1), .val (.int p2), .val (.int p3), .val (.int p4), .val (.int p5), .val (.int ki), .val (own_kind ki w0 w1 w2 w3 w4 w5), .val (.int lt), .val (.int t0), .val (.int t1), .val (.int o0), .val (.int o1), .val (.int lo), .val (.int (1 : Int32)), .val (.ref tx), .val .null, .val (.ref b91), .val (.int (0 : Int32)), .val (.int (0 : Int32)), .val (.int (0 : Int32))] [(.int (0 : Int32)), (.int (0 : Int32))])
            refine Go.of (fun _ => XS.icmpNo H114.here hx rfl (hb hby at_252) rfl (teq (by decide : (0 : Int32) = (0 : Int32))).2) ?_
            show Go p e below _ T113 (mkF m 255 #[.val (.int p0), .val (.int p1), .val (.int p2), .val (.int p3), .val (.int p4), .val (.int p5), .val (.int ki), .val (own_kind ki w0 w1 w2 w3 w4 w5), .val (.int lt), .val (.int t0), .val (.int t1), .val (.int o0), .val (.int o1), .val (.int lo), .val (.int (1 : Int32)), .val (.ref tx), .val .null, .val (.ref b91), .val (.int (0 : Int32)), .val (.int (0 : Int32)), .val (.int (0 : Int32))] [])
            refine Go.of (fun _ => XS.iconst H114.here hx rfl (hb hby at_255)) ?_
            show Go p e below _ T113 (mkF m 256 #[.val (.int p0), .val (.int p1), .val (.int p2), .val (.int p3), .val (.int p4), .val (.int p5), .val (.int ki), .val (own_kind ki w0 w1 w2 w3 w4 w5), .val (.int lt), .val (.int t0), .val (.int t1), .val (.int o0), .val (.int o1), .val (.int lo), .val (.int (1 : Int32)), .val (.ref tx), .val .null, .val (.ref b91), .val (.int (0 : Int32)), .val (.int (0 : Int32)), .val (.int (0 : Int32))] [(.int (1 : Int32))])
            refine Go.of (fun _ => XS.goto H114.here hx rfl (pc0 := 256) (pc' := 260) rfl (hb hby at_256) (by decide) (by decide)) ?_
            show Go p e below _ T113 (mkF m 260 #[.val (.int p0), .val (.int p1), .val (.int p2), .val (.int p3), .val (.int p4), .val (.int p5), .val (.int ki), .val (own_kind ki w0 w1 w2 w3 w4 w5), .val (.int lt), .val (.int t0), .val (.int t1), .val (.int o0), .val (.int o1), .val (.int lo), .val (.int (1 : Int32)), .val (.ref tx), .val .null, .val (.ref b91), .val (.int (0 : Int32)), .val (.int (0 : Int32)), .val (.int (0 : Int32))] [(.int (1 : Int32))])
            exact own_retN H114 hx hlk (t := .boolean) hret (by simp) (hb hby at_260) rfl (by decide) (by decide)
          · skip
            refine Go.of (fun _ => XS.icmpYes H114.here hx rfl (pc0 := 233) (pc' := 245) rfl (hb hby at_233) rfl (feq hc122).2 (by decide) (by decide)) ?_
            show Go p e below _ T113 (mkF m 245 #[.val (.int p0), .val (.int p1), .val (.int p2), .val (.int p3), .val (.int p4), .val (.int p5), .val (.int ki), .val (own_kind ki w0 w1 w2 w3 w4 w5), .val (.int lt), .val (.int t0), .val (.int t1), .val (.int o0), .val (.int o1), .val (.int lo), .val (.int (1 : Int32)), .val (.ref tx), .val .null, .val (.ref b91), .val (.int (0 : Int32)), .val (.int (0 : Int32)), .unset] [])
            refine Go.of (fun _ => XS.iconst H114.here hx rfl (hb hby at_245)) ?_
            show Go p e below _ T113 (mkF m 246 #[.val (.int p0), .val (.int p1), .val (.int p2), .val (.int p3), .val (.int p4), .val (.int p5), .val (.int ki), .val (own_kind ki w0 w1 w2 w3 w4 w5), .val (.int lt), .val (.int t0), .val (.int t1), .val (.int o0), .val (.int o1), .val (.int lo), .val (.int (1 : Int32)), .val (.ref tx), .val .null, .val (.ref b91), .val (.int (0 : Int32)), .val (.int (0 : Int32)), .unset] [(.int (0 : Int32))])
            refine Go.of (fun _ => XS.istore H114.here hx rfl (hb hby at_246) rfl (l' := #[.val (.int p0), .val (.int p1), .val (.int p2), .val (.int p3), .val (.int p4), .val (.int p5), .val (.int ki), .val (own_kind ki w0 w1 w2 w3 w4 w5), .val (.int lt), .val (.int t0), .val (.int t1), .val (.int o0), .val (.int o1), .val (.int lo), .val (.int (1 : Int32)), .val (.ref tx), .val .null, .val (.ref b91), .val (.int (0 : Int32)), .val (.int (0 : Int32)), .val (.int (0 : Int32))]) rfl) ?_
            show Go p e below _ T113 (mkF m 248 #[.val (.int p0), .val (.int p1), .val (.int p2), .val (.int p3), .val (.int p4), .val (.int p5), .val (.int ki), .val (own_kind ki w0 w1 w2 w3 w4 w5), .val (.int lt), .val (.int t0), .val (.int t1), .val (.int o0), .val (.int o1), .val (.int lo), .val (.int (1 : Int32)), .val (.ref tx), .val .null, .val (.ref b91), .val (.int (0 : Int32)), .val (.int (0 : Int32)), .val (.int (0 : Int32))] [])
            refine Go.of (fun _ => XS.iload H114.here hx rfl (hb hby at_248) rfl) ?_
            show Go p e below _ T113 (mkF m 250 #[.val (.int p0), .val (.int p1), .val (.int p2), .val (.int p3), .val (.int p4), .val (.int p5), .val (.int ki), .val (own_kind ki w0 w1 w2 w3 w4 w5), .val (.int lt), .val (.int t0), .val (.int t1), .val (.int o0), .val (.int o1), .val (.int lo), .val (.int (1 : Int32)), .val (.ref tx), .val .null, .val (.ref b91), .val (.int (0 : Int32)), .val (.int (0 : Int32)), .val (.int (0 : Int32))] [(.int (0 : Int32))])
            refine Go.of (fun _ => XS.iload H114.here hx rfl (hb hby at_250) rfl) ?_
            show Go p e below _ T113 (mkF m 252 #[.val (.int p0), .val (.int p1), .val (.int p2), .val (.int p3), .val (.int p4), .val (.int p5), .val (.int ki), .val (own_kind ki w0 w1 w2 w3 w4 w5), .val (.int lt), .val (.int t0), .val (.int t1), .val (.int o0), .val (.int o1), .val (.int lo), .val (.int (1 : Int32)), .val (.ref tx), .val .null, .val (.ref b91), .val (.int (0 : Int32)), .val (.int (0 : Int32)), .val (.int (0 : Int32))] [(.int (0 : Int32)), (.int (0 : Int32))])
            refine Go.of (fun _ => XS.icmpNo H114.here hx rfl (hb hby at_252) rfl (teq (by decide : (0 : Int32) = (0 : Int32))).2) ?_
            show Go p e below _ T113 (mkF m 255 #[.val (.int p0), .val (.int p1), .val (.int p2), .val (.int p3), .val (.int p4), .val (.int p5), .val (.int ki), .val (own_kind ki w0 w1 w2 w3 w4 w5), .val (.int lt), .val (.int t0), .val (.int t1), .val (.int o0), .val (.int o1), .val (.int lo), .val (.int (1 : Int32)), .val (.ref tx), .val .null, .val (.ref b91), .val (.int (0 : Int32)), .val (.int (0 : Int32)), .val (.int (0 : Int32))] [])
            refine Go.of (fun _ => XS.iconst H114.here hx rfl (hb hby at_255)) ?_
            show Go p e below _ T113 (mkF m 256 #[.val (.int p0), .val (.int p1), .val (.int p2), .val (.int p3), .val (.int p4), .val (.int p5), .val (.int ki), .val (own_kind ki w0 w1 w2 w3 w4 w5), .val (.int lt), .val (.int t0), .val (.int t1), .val (.int o0), .val (.int o1), .val (.int lo), .val (.int (1 : Int32)), .val (.ref tx), .val .null, .val (.ref b91), .val (.int (0 : Int32)), .val (.int (0 : Int32)), .val (.int (0 : Int32))] [(.int (1 : Int32))])
            refine Go.of (fun _ => XS.goto H114.here hx rfl (pc0 := 256) (pc' := 260) rfl (hb hby at_256) (by decide) (by decide)) ?_
            show Go p e below _ T113 (mkF m 260 #[.val (.int p0), .val (.int p1), .val (.int p2), .val (.int p3), .val (.int p4), .val (.int p5), .val (.int ki), .val (own_kind ki w0 w1 w2 w3 w4 w5), .val (.int lt), .val (.int t0), .val (.int t1), .val (.int o0), .val (.int o1), .val (.int lo), .val (.int (1 : Int32)), .val (.ref tx), .val .null, .val (.ref b91), .val (.int (0 : Int32)), .val (.int (0 : Int32)), .val (.int (0 : Int32))] [(.int (1 : Int32))])
            exact own_retN H114 hx hlk (t := .boolean) hret (by simp) (hb hby at_260) rfl (by decide) (by decide)
    have J106_123 : ∀ (lt : Int32) (t0 : Int32) (t1 : Int32) (o0 : Int32) (o1 : Int32) (lo : Int32), (¬ lt < 0 ∧ lt < 3) → (¬ t0 < 0 ∧ ¬ (255 : Int32) < t0) → (¬ t1 < 0 ∧ ¬ (255 : Int32) < t1) → (¬ o0 < 0 ∧ ¬ (255 : Int32) < o0) → (¬ o1 < 0 ∧ ¬ (255 : Int32) < o1) → (¬ lo < 0 ∧ lo < 3) → Go p e below (own_fin Z ELx true s below (fun v h => v = some (.int 1)) (room_1).cells (room_1).slots) T2 (mkF m 106 #[.val (.int p0), .val (.int p1), .val (.int p2), .val (.int p3), .val (.int p4), .val (.int p5), .val (.int ki), .val (own_kind ki w0 w1 w2 w3 w4 w5), .val (.int lt), .val (.int t0), .val (.int t1), .val (.int o0), .val (.int o1), .val (.int lo), .unset, .unset, .unset, .unset, .unset, .unset, .unset] []) := by
      intro lt t0 t1 o0 o1 lo hlt ht0 ht1 ho0 ho1 hlo
      show Go p e below _ T2 (mkF m 106 #[.val (.int p0), .val (.int p1), .val (.int p2), .val (.int p3), .val (.int p4), .val (.int p5), .val (.int ki), .val (own_kind ki w0 w1 w2 w3 w4 w5), .val (.int lt), .val (.int t0), .val (.int t1), .val (.int o0), .val (.int o1), .val (.int lo), .unset, .unset, .unset, .unset, .unset, .unset, .unset] [])
      refine Go.of (fun _ => XS.iload H3.here hx rfl (hb hby at_106) rfl) ?_
      show Go p e below _ T2 (mkF m 108 #[.val (.int p0), .val (.int p1), .val (.int p2), .val (.int p3), .val (.int p4), .val (.int p5), .val (.int ki), .val (own_kind ki w0 w1 w2 w3 w4 w5), .val (.int lt), .val (.int t0), .val (.int t1), .val (.int o0), .val (.int o1), .val (.int lo), .unset, .unset, .unset, .unset, .unset, .unset, .unset] [(.int p4)])
      refine Go.of (fun _ => XS.bipush H3.here hx rfl (hb hby at_108)) ?_
      show Go p e below _ T2 (mkF m 110 #[.val (.int p0), .val (.int p1), .val (.int p2), .val (.int p3), .val (.int p4), .val (.int p5), .val (.int ki), .val (own_kind ki w0 w1 w2 w3 w4 w5), .val (.int lt), .val (.int t0), .val (.int t1), .val (.int o0), .val (.int o1), .val (.int lo), .unset, .unset, .unset, .unset, .unset, .unset, .unset] [(.int (7 : Int32)), (.int p4)])
      refine Go.of (fun _ => XS.iand H3.here hx rfl (hb hby at_110) rfl) ?_
      show Go p e below _ T2 (mkF m 111 #[.val (.int p0), .val (.int p1), .val (.int p2), .val (.int p3), .val (.int p4), .val (.int p5), .val (.int ki), .val (own_kind ki w0 w1 w2 w3 w4 w5), .val (.int lt), .val (.int t0), .val (.int t1), .val (.int o0), .val (.int o1), .val (.int lo), .unset, .unset, .unset, .unset, .unset, .unset, .unset] [(.int (p4 &&& (7 : Int32)))])
      refine Go.of (fun _ => XS.bipush H3.here hx rfl (hb hby at_111)) ?_
      show Go p e below _ T2 (mkF m 113 #[.val (.int p0), .val (.int p1), .val (.int p2), .val (.int p3), .val (.int p4), .val (.int p5), .val (.int ki), .val (own_kind ki w0 w1 w2 w3 w4 w5), .val (.int lt), .val (.int t0), .val (.int t1), .val (.int o0), .val (.int o1), .val (.int lo), .unset, .unset, .unset, .unset, .unset, .unset, .unset] [(.int (7 : Int32)), (.int (p4 &&& (7 : Int32)))])
      by_cases hc124 : (p4 &&& (7 : Int32)) = (7 : Int32)
      · skip
        refine Go.of (fun _ => XS.icmpNo H3.here hx rfl (hb hby at_113) rfl (teq hc124).2) ?_
        show Go p e below _ T2 (mkF m 116 #[.val (.int p0), .val (.int p1), .val (.int p2), .val (.int p3), .val (.int p4), .val (.int p5), .val (.int ki), .val (own_kind ki w0 w1 w2 w3 w4 w5), .val (.int lt), .val (.int t0), .val (.int t1), .val (.int o0), .val (.int o1), .val (.int lo), .unset, .unset, .unset, .unset, .unset, .unset, .unset] [])
        refine Go.of (fun _ => XS.iconst H3.here hx rfl (hb hby at_116)) ?_
        show Go p e below _ T2 (mkF m 117 #[.val (.int p0), .val (.int p1), .val (.int p2), .val (.int p3), .val (.int p4), .val (.int p5), .val (.int ki), .val (own_kind ki w0 w1 w2 w3 w4 w5), .val (.int lt), .val (.int t0), .val (.int t1), .val (.int o0), .val (.int o1), .val (.int lo), .unset, .unset, .unset, .unset, .unset, .unset, .unset] [(.int (1 : Int32))])
        refine Go.of (fun _ => XS.goto H3.here hx rfl (pc0 := 117) (pc' := 121) rfl (hb hby at_117) (by decide) (by decide)) ?_
        show Go p e below _ T2 (mkF m 121 #[.val (.int p0), .val (.int p1), .val (.int p2), .val (.int p3), .val (.int p4), .val (.int p5), .val (.int ki), .val (own_kind ki w0 w1 w2 w3 w4 w5), .val (.int lt), .val (.int t0), .val (.int t1), .val (.int o0), .val (.int o1), .val (.int lo), .unset, .unset, .unset, .unset, .unset, .unset, .unset] [(.int (1 : Int32))])
        refine Go.of (fun _ => XS.istore H3.here hx rfl (hb hby at_121) rfl (l' := #[.val (.int p0), .val (.int p1), .val (.int p2), .val (.int p3), .val (.int p4), .val (.int p5), .val (.int ki), .val (own_kind ki w0 w1 w2 w3 w4 w5), .val (.int lt), .val (.int t0), .val (.int t1), .val (.int o0), .val (.int o1), .val (.int lo), .val (.int (1 : Int32)), .unset, .unset, .unset, .unset, .unset, .unset]) rfl) ?_
        show Go p e below _ T2 (mkF m 123 #[.val (.int p0), .val (.int p1), .val (.int p2), .val (.int p3), .val (.int p4), .val (.int p5), .val (.int ki), .val (own_kind ki w0 w1 w2 w3 w4 w5), .val (.int lt), .val (.int t0), .val (.int t1), .val (.int o0), .val (.int o1), .val (.int lo), .val (.int (1 : Int32)), .unset, .unset, .unset, .unset, .unset, .unset] [])
        exact J123_10 lt t0 t1 o0 o1 lo (1 : Int32) hlt ht0 ht1 ho0 ho1 hlo (Or.inr rfl)
      · skip
        refine Go.of (fun _ => XS.icmpYes H3.here hx rfl (pc0 := 113) (pc' := 120) rfl (hb hby at_113) rfl (feq hc124).2 (by decide) (by decide)) ?_
        show Go p e below _ T2 (mkF m 120 #[.val (.int p0), .val (.int p1), .val (.int p2), .val (.int p3), .val (.int p4), .val (.int p5), .val (.int ki), .val (own_kind ki w0 w1 w2 w3 w4 w5), .val (.int lt), .val (.int t0), .val (.int t1), .val (.int o0), .val (.int o1), .val (.int lo), .unset, .unset, .unset, .unset, .unset, .unset, .unset] [])
        refine Go.of (fun _ => XS.iconst H3.here hx rfl (hb hby at_120)) ?_
        show Go p e below _ T2 (mkF m 121 #[.val (.int p0), .val (.int p1), .val (.int p2), .val (.int p3), .val (.int p4), .val (.int p5), .val (.int ki), .val (own_kind ki w0 w1 w2 w3 w4 w5), .val (.int lt), .val (.int t0), .val (.int t1), .val (.int o0), .val (.int o1), .val (.int lo), .unset, .unset, .unset, .unset, .unset, .unset, .unset] [(.int (0 : Int32))])
        refine Go.of (fun _ => XS.istore H3.here hx rfl (hb hby at_121) rfl (l' := #[.val (.int p0), .val (.int p1), .val (.int p2), .val (.int p3), .val (.int p4), .val (.int p5), .val (.int ki), .val (own_kind ki w0 w1 w2 w3 w4 w5), .val (.int lt), .val (.int t0), .val (.int t1), .val (.int o0), .val (.int o1), .val (.int lo), .val (.int (0 : Int32)), .unset, .unset, .unset, .unset, .unset, .unset]) rfl) ?_
        show Go p e below _ T2 (mkF m 123 #[.val (.int p0), .val (.int p1), .val (.int p2), .val (.int p3), .val (.int p4), .val (.int p5), .val (.int ki), .val (own_kind ki w0 w1 w2 w3 w4 w5), .val (.int lt), .val (.int t0), .val (.int t1), .val (.int o0), .val (.int o1), .val (.int lo), .val (.int (0 : Int32)), .unset, .unset, .unset, .unset, .unset, .unset] [])
        exact J123_10 lt t0 t1 o0 o1 lo (0 : Int32) hlt ht0 ht1 ho0 ho1 hlo (Or.inl rfl)
    have J85_125 : ∀ (lt : Int32) (t0 : Int32) (t1 : Int32) (o0 : Int32) (o1 : Int32), (¬ lt < 0 ∧ lt < 3) → (¬ t0 < 0 ∧ ¬ (255 : Int32) < t0) → (¬ t1 < 0 ∧ ¬ (255 : Int32) < t1) → (¬ o0 < 0 ∧ ¬ (255 : Int32) < o0) → (¬ o1 < 0 ∧ ¬ (255 : Int32) < o1) → Go p e below (own_fin Z ELx true s below (fun v h => v = some (.int 1)) (room_1).cells (room_1).slots) T2 (mkF m 85 #[.val (.int p0), .val (.int p1), .val (.int p2), .val (.int p3), .val (.int p4), .val (.int p5), .val (.int ki), .val (own_kind ki w0 w1 w2 w3 w4 w5), .val (.int lt), .val (.int t0), .val (.int t1), .val (.int o0), .val (.int o1), .unset, .unset, .unset, .unset, .unset, .unset, .unset, .unset] []) := by
      intro lt t0 t1 o0 o1 hlt ht0 ht1 ho0 ho1
      show Go p e below _ T2 (mkF m 85 #[.val (.int p0), .val (.int p1), .val (.int p2), .val (.int p3), .val (.int p4), .val (.int p5), .val (.int ki), .val (own_kind ki w0 w1 w2 w3 w4 w5), .val (.int lt), .val (.int t0), .val (.int t1), .val (.int o0), .val (.int o1), .unset, .unset, .unset, .unset, .unset, .unset, .unset, .unset] [])
      refine Go.of (fun _ => XS.iloadN H3.here hx rfl (hb hby at_85) rfl) ?_
      show Go p e below _ T2 (mkF m 86 #[.val (.int p0), .val (.int p1), .val (.int p2), .val (.int p3), .val (.int p4), .val (.int p5), .val (.int ki), .val (own_kind ki w0 w1 w2 w3 w4 w5), .val (.int lt), .val (.int t0), .val (.int t1), .val (.int o0), .val (.int o1), .unset, .unset, .unset, .unset, .unset, .unset, .unset, .unset] [(.int p3)])
      refine Go.of (fun _ => XS.iconst H3.here hx rfl (hb hby at_86)) ?_
      show Go p e below _ T2 (mkF m 87 #[.val (.int p0), .val (.int p1), .val (.int p2), .val (.int p3), .val (.int p4), .val (.int p5), .val (.int ki), .val (own_kind ki w0 w1 w2 w3 w4 w5), .val (.int lt), .val (.int t0), .val (.int t1), .val (.int o0), .val (.int o1), .unset, .unset, .unset, .unset, .unset, .unset, .unset, .unset] [(.int (4 : Int32)), (.int p3)])
      refine Go.of (fun _ => XS.iand H3.here hx rfl (hb hby at_87) rfl) ?_
      show Go p e below _ T2 (mkF m 88 #[.val (.int p0), .val (.int p1), .val (.int p2), .val (.int p3), .val (.int p4), .val (.int p5), .val (.int ki), .val (own_kind ki w0 w1 w2 w3 w4 w5), .val (.int lt), .val (.int t0), .val (.int t1), .val (.int o0), .val (.int o1), .unset, .unset, .unset, .unset, .unset, .unset, .unset, .unset] [(.int (p3 &&& (4 : Int32)))])
      by_cases hc126 : (p3 &&& (4 : Int32)) = (0 : Int32)
      · skip
        refine Go.of (fun _ => XS.ifYes H3.here hx rfl (pc0 := 88) (pc' := 96) rfl (hb hby at_88) rfl ((if0 _ _).trans (teq hc126).1) (by decide) (by decide)) ?_
        show Go p e below _ T2 (mkF m 96 #[.val (.int p0), .val (.int p1), .val (.int p2), .val (.int p3), .val (.int p4), .val (.int p5), .val (.int ki), .val (own_kind ki w0 w1 w2 w3 w4 w5), .val (.int lt), .val (.int t0), .val (.int t1), .val (.int o0), .val (.int o1), .unset, .unset, .unset, .unset, .unset, .unset, .unset, .unset] [])
        refine Go.of (fun _ => XS.iloadN H3.here hx rfl (hb hby at_96) rfl) ?_
        show Go p e below _ T2 (mkF m 97 #[.val (.int p0), .val (.int p1), .val (.int p2), .val (.int p3), .val (.int p4), .val (.int p5), .val (.int ki), .val (own_kind ki w0 w1 w2 w3 w4 w5), .val (.int lt), .val (.int t0), .val (.int t1), .val (.int o0), .val (.int o1), .unset, .unset, .unset, .unset, .unset, .unset, .unset, .unset] [(.int p3)])
        refine Go.of (fun _ => XS.iconst H3.here hx rfl (hb hby at_97)) ?_
        show Go p e below _ T2 (mkF m 98 #[.val (.int p0), .val (.int p1), .val (.int p2), .val (.int p3), .val (.int p4), .val (.int p5), .val (.int ki), .val (own_kind ki w0 w1 w2 w3 w4 w5), .val (.int lt), .val (.int t0), .val (.int t1), .val (.int o0), .val (.int o1), .unset, .unset, .unset, .unset, .unset, .unset, .unset, .unset] [(.int (3 : Int32)), (.int p3)])
        refine Go.of (fun _ => XS.iushr H3.here hx rfl (hb hby at_98) rfl) ?_
        show Go p e below _ T2 (mkF m 99 #[.val (.int p0), .val (.int p1), .val (.int p2), .val (.int p3), .val (.int p4), .val (.int p5), .val (.int ki), .val (own_kind ki w0 w1 w2 w3 w4 w5), .val (.int lt), .val (.int t0), .val (.int t1), .val (.int o0), .val (.int o1), .unset, .unset, .unset, .unset, .unset, .unset, .unset, .unset] [(.int ((p3.toUInt32 >>> ((3 : Int32) &&& 31).toUInt32).toInt32))])
        refine own_ldcI H3 hx hown (ow hw 0 rfl) rfl (hb hby at_99) ?_
        show Go p e below _ T2 (mkF m 101 #[.val (.int p0), .val (.int p1), .val (.int p2), .val (.int p3), .val (.int p4), .val (.int p5), .val (.int ki), .val (own_kind ki w0 w1 w2 w3 w4 w5), .val (.int lt), .val (.int t0), .val (.int t1), .val (.int o0), .val (.int o1), .unset, .unset, .unset, .unset, .unset, .unset, .unset, .unset] [(.int (2147483647 : Int32)), (.int ((p3.toUInt32 >>> ((3 : Int32) &&& 31).toUInt32).toInt32))])
        refine Go.of (fun _ => XS.iand H3.here hx rfl (hb hby at_101) rfl) ?_
        show Go p e below _ T2 (mkF m 102 #[.val (.int p0), .val (.int p1), .val (.int p2), .val (.int p3), .val (.int p4), .val (.int p5), .val (.int ki), .val (own_kind ki w0 w1 w2 w3 w4 w5), .val (.int lt), .val (.int t0), .val (.int t1), .val (.int o0), .val (.int o1), .unset, .unset, .unset, .unset, .unset, .unset, .unset, .unset] [(.int (((p3.toUInt32 >>> ((3 : Int32) &&& 31).toUInt32).toInt32) &&& (2147483647 : Int32)))])
        refine Go.of (fun _ => XS.iconst H3.here hx rfl (hb hby at_102)) ?_
        show Go p e below _ T2 (mkF m 103 #[.val (.int p0), .val (.int p1), .val (.int p2), .val (.int p3), .val (.int p4), .val (.int p5), .val (.int ki), .val (own_kind ki w0 w1 w2 w3 w4 w5), .val (.int lt), .val (.int t0), .val (.int t1), .val (.int o0), .val (.int o1), .unset, .unset, .unset, .unset, .unset, .unset, .unset, .unset] [(.int (3 : Int32)), (.int (((p3.toUInt32 >>> ((3 : Int32) &&& 31).toUInt32).toInt32) &&& (2147483647 : Int32)))])
        refine own_irem H3 hx rfl (hb hby at_103) rfl (by decide) ?_
        show Go p e below _ T2 (mkF m 104 #[.val (.int p0), .val (.int p1), .val (.int p2), .val (.int p3), .val (.int p4), .val (.int p5), .val (.int ki), .val (own_kind ki w0 w1 w2 w3 w4 w5), .val (.int lt), .val (.int t0), .val (.int t1), .val (.int o0), .val (.int o1), .unset, .unset, .unset, .unset, .unset, .unset, .unset, .unset] [(.int ((((p3.toUInt32 >>> ((3 : Int32) &&& 31).toUInt32).toInt32) &&& (2147483647 : Int32)) % (3 : Int32)))])
        refine Go.of (fun _ => XS.istore H3.here hx rfl (hb hby at_104) rfl (l' := #[.val (.int p0), .val (.int p1), .val (.int p2), .val (.int p3), .val (.int p4), .val (.int p5), .val (.int ki), .val (own_kind ki w0 w1 w2 w3 w4 w5), .val (.int lt), .val (.int t0), .val (.int t1), .val (.int o0), .val (.int o1), .val (.int ((((p3.toUInt32 >>> ((3 : Int32) &&& 31).toUInt32).toInt32) &&& (2147483647 : Int32)) % (3 : Int32))), .unset, .unset, .unset, .unset, .unset, .unset, .unset]) rfl) ?_
        show Go p e below _ T2 (mkF m 106 #[.val (.int p0), .val (.int p1), .val (.int p2), .val (.int p3), .val (.int p4), .val (.int p5), .val (.int ki), .val (own_kind ki w0 w1 w2 w3 w4 w5), .val (.int lt), .val (.int t0), .val (.int t1), .val (.int o0), .val (.int o1), .val (.int ((((p3.toUInt32 >>> ((3 : Int32) &&& 31).toUInt32).toInt32) &&& (2147483647 : Int32)) % (3 : Int32))), .unset, .unset, .unset, .unset, .unset, .unset, .unset] [])
        exact J106_123 lt t0 t1 o0 o1 ((((p3.toUInt32 >>> ((3 : Int32) &&& 31).toUInt32).toInt32) &&& (2147483647 : Int32)) % (3 : Int32)) hlt ht0 ht1 ho0 ho1 (own_rng3 _)
      · skip
        refine Go.of (fun _ => XS.ifNo H3.here hx rfl (hb hby at_88) rfl ((if0 _ _).trans (feq hc126).1)) ?_
        show Go p e below _ T2 (mkF m 91 #[.val (.int p0), .val (.int p1), .val (.int p2), .val (.int p3), .val (.int p4), .val (.int p5), .val (.int ki), .val (own_kind ki w0 w1 w2 w3 w4 w5), .val (.int lt), .val (.int t0), .val (.int t1), .val (.int o0), .val (.int o1), .unset, .unset, .unset, .unset, .unset, .unset, .unset, .unset] [])
        refine Go.of (fun _ => XS.iload H3.here hx rfl (hb hby at_91) rfl) ?_
        show Go p e below _ T2 (mkF m 93 #[.val (.int p0), .val (.int p1), .val (.int p2), .val (.int p3), .val (.int p4), .val (.int p5), .val (.int ki), .val (own_kind ki w0 w1 w2 w3 w4 w5), .val (.int lt), .val (.int t0), .val (.int t1), .val (.int o0), .val (.int o1), .unset, .unset, .unset, .unset, .unset, .unset, .unset, .unset] [(.int lt)])
        refine Go.of (fun _ => XS.goto H3.here hx rfl (pc0 := 93) (pc' := 104) rfl (hb hby at_93) (by decide) (by decide)) ?_
        show Go p e below _ T2 (mkF m 104 #[.val (.int p0), .val (.int p1), .val (.int p2), .val (.int p3), .val (.int p4), .val (.int p5), .val (.int ki), .val (own_kind ki w0 w1 w2 w3 w4 w5), .val (.int lt), .val (.int t0), .val (.int t1), .val (.int o0), .val (.int o1), .unset, .unset, .unset, .unset, .unset, .unset, .unset, .unset] [(.int lt)])
        refine Go.of (fun _ => XS.istore H3.here hx rfl (hb hby at_104) rfl (l' := #[.val (.int p0), .val (.int p1), .val (.int p2), .val (.int p3), .val (.int p4), .val (.int p5), .val (.int ki), .val (own_kind ki w0 w1 w2 w3 w4 w5), .val (.int lt), .val (.int t0), .val (.int t1), .val (.int o0), .val (.int o1), .val (.int lt), .unset, .unset, .unset, .unset, .unset, .unset, .unset]) rfl) ?_
        show Go p e below _ T2 (mkF m 106 #[.val (.int p0), .val (.int p1), .val (.int p2), .val (.int p3), .val (.int p4), .val (.int p5), .val (.int ki), .val (own_kind ki w0 w1 w2 w3 w4 w5), .val (.int lt), .val (.int t0), .val (.int t1), .val (.int o0), .val (.int o1), .val (.int lt), .unset, .unset, .unset, .unset, .unset, .unset, .unset] [])
        exact J106_123 lt t0 t1 o0 o1 lt hlt ht0 ht1 ho0 ho1 hlt
    have J63_127 : ∀ (lt : Int32) (t0 : Int32) (t1 : Int32) (o0 : Int32), (¬ lt < 0 ∧ lt < 3) → (¬ t0 < 0 ∧ ¬ (255 : Int32) < t0) → (¬ t1 < 0 ∧ ¬ (255 : Int32) < t1) → (¬ o0 < 0 ∧ ¬ (255 : Int32) < o0) → Go p e below (own_fin Z ELx true s below (fun v h => v = some (.int 1)) (room_1).cells (room_1).slots) T2 (mkF m 63 #[.val (.int p0), .val (.int p1), .val (.int p2), .val (.int p3), .val (.int p4), .val (.int p5), .val (.int ki), .val (own_kind ki w0 w1 w2 w3 w4 w5), .val (.int lt), .val (.int t0), .val (.int t1), .val (.int o0), .unset, .unset, .unset, .unset, .unset, .unset, .unset, .unset, .unset] []) := by
      intro lt t0 t1 o0 hlt ht0 ht1 ho0
      show Go p e below _ T2 (mkF m 63 #[.val (.int p0), .val (.int p1), .val (.int p2), .val (.int p3), .val (.int p4), .val (.int p5), .val (.int ki), .val (own_kind ki w0 w1 w2 w3 w4 w5), .val (.int lt), .val (.int t0), .val (.int t1), .val (.int o0), .unset, .unset, .unset, .unset, .unset, .unset, .unset, .unset, .unset] [])
      refine Go.of (fun _ => XS.iloadN H3.here hx rfl (hb hby at_63) rfl) ?_
      show Go p e below _ T2 (mkF m 64 #[.val (.int p0), .val (.int p1), .val (.int p2), .val (.int p3), .val (.int p4), .val (.int p5), .val (.int ki), .val (own_kind ki w0 w1 w2 w3 w4 w5), .val (.int lt), .val (.int t0), .val (.int t1), .val (.int o0), .unset, .unset, .unset, .unset, .unset, .unset, .unset, .unset, .unset] [(.int p3)])
      refine Go.of (fun _ => XS.iconst H3.here hx rfl (hb hby at_64)) ?_
      show Go p e below _ T2 (mkF m 65 #[.val (.int p0), .val (.int p1), .val (.int p2), .val (.int p3), .val (.int p4), .val (.int p5), .val (.int ki), .val (own_kind ki w0 w1 w2 w3 w4 w5), .val (.int lt), .val (.int t0), .val (.int t1), .val (.int o0), .unset, .unset, .unset, .unset, .unset, .unset, .unset, .unset, .unset] [(.int (2 : Int32)), (.int p3)])
      refine Go.of (fun _ => XS.iand H3.here hx rfl (hb hby at_65) rfl) ?_
      show Go p e below _ T2 (mkF m 66 #[.val (.int p0), .val (.int p1), .val (.int p2), .val (.int p3), .val (.int p4), .val (.int p5), .val (.int ki), .val (own_kind ki w0 w1 w2 w3 w4 w5), .val (.int lt), .val (.int t0), .val (.int t1), .val (.int o0), .unset, .unset, .unset, .unset, .unset, .unset, .unset, .unset, .unset] [(.int (p3 &&& (2 : Int32)))])
      by_cases hc128 : (p3 &&& (2 : Int32)) = (0 : Int32)
      · skip
        refine Go.of (fun _ => XS.ifYes H3.here hx rfl (pc0 := 66) (pc' := 74) rfl (hb hby at_66) rfl ((if0 _ _).trans (teq hc128).1) (by decide) (by decide)) ?_
        show Go p e below _ T2 (mkF m 74 #[.val (.int p0), .val (.int p1), .val (.int p2), .val (.int p3), .val (.int p4), .val (.int p5), .val (.int ki), .val (own_kind ki w0 w1 w2 w3 w4 w5), .val (.int lt), .val (.int t0), .val (.int t1), .val (.int o0), .unset, .unset, .unset, .unset, .unset, .unset, .unset, .unset, .unset] [])
        refine Go.of (fun _ => XS.iloadN H3.here hx rfl (hb hby at_74) rfl) ?_
        show Go p e below _ T2 (mkF m 75 #[.val (.int p0), .val (.int p1), .val (.int p2), .val (.int p3), .val (.int p4), .val (.int p5), .val (.int ki), .val (own_kind ki w0 w1 w2 w3 w4 w5), .val (.int lt), .val (.int t0), .val (.int t1), .val (.int o0), .unset, .unset, .unset, .unset, .unset, .unset, .unset, .unset, .unset] [(.int p2)])
        refine Go.of (fun _ => XS.bipush H3.here hx rfl (hb hby at_75)) ?_
        show Go p e below _ T2 (mkF m 77 #[.val (.int p0), .val (.int p1), .val (.int p2), .val (.int p3), .val (.int p4), .val (.int p5), .val (.int ki), .val (own_kind ki w0 w1 w2 w3 w4 w5), .val (.int lt), .val (.int t0), .val (.int t1), .val (.int o0), .unset, .unset, .unset, .unset, .unset, .unset, .unset, .unset, .unset] [(.int (8 : Int32)), (.int p2)])
        refine Go.of (fun _ => XS.iushr H3.here hx rfl (hb hby at_77) rfl) ?_
        show Go p e below _ T2 (mkF m 78 #[.val (.int p0), .val (.int p1), .val (.int p2), .val (.int p3), .val (.int p4), .val (.int p5), .val (.int ki), .val (own_kind ki w0 w1 w2 w3 w4 w5), .val (.int lt), .val (.int t0), .val (.int t1), .val (.int o0), .unset, .unset, .unset, .unset, .unset, .unset, .unset, .unset, .unset] [(.int ((p2.toUInt32 >>> ((8 : Int32) &&& 31).toUInt32).toInt32))])
        refine Go.of (fun _ => XS.sipush H3.here hx rfl (hb hby at_78)) ?_
        show Go p e below _ T2 (mkF m 81 #[.val (.int p0), .val (.int p1), .val (.int p2), .val (.int p3), .val (.int p4), .val (.int p5), .val (.int ki), .val (own_kind ki w0 w1 w2 w3 w4 w5), .val (.int lt), .val (.int t0), .val (.int t1), .val (.int o0), .unset, .unset, .unset, .unset, .unset, .unset, .unset, .unset, .unset] [(.int (255 : Int32)), (.int ((p2.toUInt32 >>> ((8 : Int32) &&& 31).toUInt32).toInt32))])
        refine Go.of (fun _ => XS.iand H3.here hx rfl (hb hby at_81) rfl) ?_
        show Go p e below _ T2 (mkF m 82 #[.val (.int p0), .val (.int p1), .val (.int p2), .val (.int p3), .val (.int p4), .val (.int p5), .val (.int ki), .val (own_kind ki w0 w1 w2 w3 w4 w5), .val (.int lt), .val (.int t0), .val (.int t1), .val (.int o0), .unset, .unset, .unset, .unset, .unset, .unset, .unset, .unset, .unset] [(.int (((p2.toUInt32 >>> ((8 : Int32) &&& 31).toUInt32).toInt32) &&& (255 : Int32)))])
        refine Go.of (fun _ => XS.i2c H3.here hx rfl (hb hby at_82) rfl) ?_
        show Go p e below _ T2 (mkF m 83 #[.val (.int p0), .val (.int p1), .val (.int p2), .val (.int p3), .val (.int p4), .val (.int p5), .val (.int ki), .val (own_kind ki w0 w1 w2 w3 w4 w5), .val (.int lt), .val (.int t0), .val (.int t1), .val (.int o0), .unset, .unset, .unset, .unset, .unset, .unset, .unset, .unset, .unset] [(.int ((((p2.toUInt32 >>> ((8 : Int32) &&& 31).toUInt32).toInt32) &&& (255 : Int32)).toUInt32.toUInt16.toUInt32.toInt32))])
        refine Go.of (fun _ => XS.istore H3.here hx rfl (hb hby at_83) rfl (l' := #[.val (.int p0), .val (.int p1), .val (.int p2), .val (.int p3), .val (.int p4), .val (.int p5), .val (.int ki), .val (own_kind ki w0 w1 w2 w3 w4 w5), .val (.int lt), .val (.int t0), .val (.int t1), .val (.int o0), .val (.int ((((p2.toUInt32 >>> ((8 : Int32) &&& 31).toUInt32).toInt32) &&& (255 : Int32)).toUInt32.toUInt16.toUInt32.toInt32)), .unset, .unset, .unset, .unset, .unset, .unset, .unset, .unset]) rfl) ?_
        show Go p e below _ T2 (mkF m 85 #[.val (.int p0), .val (.int p1), .val (.int p2), .val (.int p3), .val (.int p4), .val (.int p5), .val (.int ki), .val (own_kind ki w0 w1 w2 w3 w4 w5), .val (.int lt), .val (.int t0), .val (.int t1), .val (.int o0), .val (.int ((((p2.toUInt32 >>> ((8 : Int32) &&& 31).toUInt32).toInt32) &&& (255 : Int32)).toUInt32.toUInt16.toUInt32.toInt32)), .unset, .unset, .unset, .unset, .unset, .unset, .unset, .unset] [])
        exact J85_125 lt t0 t1 o0 ((((p2.toUInt32 >>> ((8 : Int32) &&& 31).toUInt32).toInt32) &&& (255 : Int32)).toUInt32.toUInt16.toUInt32.toInt32) hlt ht0 ht1 ho0 (own_ch _)
      · skip
        refine Go.of (fun _ => XS.ifNo H3.here hx rfl (hb hby at_66) rfl ((if0 _ _).trans (feq hc128).1)) ?_
        show Go p e below _ T2 (mkF m 69 #[.val (.int p0), .val (.int p1), .val (.int p2), .val (.int p3), .val (.int p4), .val (.int p5), .val (.int ki), .val (own_kind ki w0 w1 w2 w3 w4 w5), .val (.int lt), .val (.int t0), .val (.int t1), .val (.int o0), .unset, .unset, .unset, .unset, .unset, .unset, .unset, .unset, .unset] [])
        refine Go.of (fun _ => XS.iload H3.here hx rfl (hb hby at_69) rfl) ?_
        show Go p e below _ T2 (mkF m 71 #[.val (.int p0), .val (.int p1), .val (.int p2), .val (.int p3), .val (.int p4), .val (.int p5), .val (.int ki), .val (own_kind ki w0 w1 w2 w3 w4 w5), .val (.int lt), .val (.int t0), .val (.int t1), .val (.int o0), .unset, .unset, .unset, .unset, .unset, .unset, .unset, .unset, .unset] [(.int t1)])
        refine Go.of (fun _ => XS.goto H3.here hx rfl (pc0 := 71) (pc' := 83) rfl (hb hby at_71) (by decide) (by decide)) ?_
        show Go p e below _ T2 (mkF m 83 #[.val (.int p0), .val (.int p1), .val (.int p2), .val (.int p3), .val (.int p4), .val (.int p5), .val (.int ki), .val (own_kind ki w0 w1 w2 w3 w4 w5), .val (.int lt), .val (.int t0), .val (.int t1), .val (.int o0), .unset, .unset, .unset, .unset, .unset, .unset, .unset, .unset, .unset] [(.int t1)])
        refine Go.of (fun _ => XS.istore H3.here hx rfl (hb hby at_83) rfl (l' := #[.val (.int p0), .val (.int p1), .val (.int p2), .val (.int p3), .val (.int p4), .val (.int p5), .val (.int ki), .val (own_kind ki w0 w1 w2 w3 w4 w5), .val (.int lt), .val (.int t0), .val (.int t1), .val (.int o0), .val (.int t1), .unset, .unset, .unset, .unset, .unset, .unset, .unset, .unset]) rfl) ?_
        show Go p e below _ T2 (mkF m 85 #[.val (.int p0), .val (.int p1), .val (.int p2), .val (.int p3), .val (.int p4), .val (.int p5), .val (.int ki), .val (own_kind ki w0 w1 w2 w3 w4 w5), .val (.int lt), .val (.int t0), .val (.int t1), .val (.int o0), .val (.int t1), .unset, .unset, .unset, .unset, .unset, .unset, .unset, .unset] [])
        exact J85_125 lt t0 t1 o0 t1 hlt ht0 ht1 ho0 ht1
    have J44_129 : ∀ (lt : Int32) (t0 : Int32) (t1 : Int32), (¬ lt < 0 ∧ lt < 3) → (¬ t0 < 0 ∧ ¬ (255 : Int32) < t0) → (¬ t1 < 0 ∧ ¬ (255 : Int32) < t1) → Go p e below (own_fin Z ELx true s below (fun v h => v = some (.int 1)) (room_1).cells (room_1).slots) T2 (mkF m 44 #[.val (.int p0), .val (.int p1), .val (.int p2), .val (.int p3), .val (.int p4), .val (.int p5), .val (.int ki), .val (own_kind ki w0 w1 w2 w3 w4 w5), .val (.int lt), .val (.int t0), .val (.int t1), .unset, .unset, .unset, .unset, .unset, .unset, .unset, .unset, .unset, .unset] []) := by
      intro lt t0 t1 hlt ht0 ht1
      show Go p e below _ T2 (mkF m 44 #[.val (.int p0), .val (.int p1), .val (.int p2), .val (.int p3), .val (.int p4), .val (.int p5), .val (.int ki), .val (own_kind ki w0 w1 w2 w3 w4 w5), .val (.int lt), .val (.int t0), .val (.int t1), .unset, .unset, .unset, .unset, .unset, .unset, .unset, .unset, .unset, .unset] [])
      refine Go.of (fun _ => XS.iloadN H3.here hx rfl (hb hby at_44) rfl) ?_
      show Go p e below _ T2 (mkF m 45 #[.val (.int p0), .val (.int p1), .val (.int p2), .val (.int p3), .val (.int p4), .val (.int p5), .val (.int ki), .val (own_kind ki w0 w1 w2 w3 w4 w5), .val (.int lt), .val (.int t0), .val (.int t1), .unset, .unset, .unset, .unset, .unset, .unset, .unset, .unset, .unset, .unset] [(.int p3)])
      refine Go.of (fun _ => XS.iconst H3.here hx rfl (hb hby at_45)) ?_
      show Go p e below _ T2 (mkF m 46 #[.val (.int p0), .val (.int p1), .val (.int p2), .val (.int p3), .val (.int p4), .val (.int p5), .val (.int ki), .val (own_kind ki w0 w1 w2 w3 w4 w5), .val (.int lt), .val (.int t0), .val (.int t1), .unset, .unset, .unset, .unset, .unset, .unset, .unset, .unset, .unset, .unset] [(.int (1 : Int32)), (.int p3)])
      refine Go.of (fun _ => XS.iand H3.here hx rfl (hb hby at_46) rfl) ?_
      show Go p e below _ T2 (mkF m 47 #[.val (.int p0), .val (.int p1), .val (.int p2), .val (.int p3), .val (.int p4), .val (.int p5), .val (.int ki), .val (own_kind ki w0 w1 w2 w3 w4 w5), .val (.int lt), .val (.int t0), .val (.int t1), .unset, .unset, .unset, .unset, .unset, .unset, .unset, .unset, .unset, .unset] [(.int (p3 &&& (1 : Int32)))])
      by_cases hc130 : (p3 &&& (1 : Int32)) = (0 : Int32)
      · skip
        refine Go.of (fun _ => XS.ifYes H3.here hx rfl (pc0 := 47) (pc' := 55) rfl (hb hby at_47) rfl ((if0 _ _).trans (teq hc130).1) (by decide) (by decide)) ?_
        show Go p e below _ T2 (mkF m 55 #[.val (.int p0), .val (.int p1), .val (.int p2), .val (.int p3), .val (.int p4), .val (.int p5), .val (.int ki), .val (own_kind ki w0 w1 w2 w3 w4 w5), .val (.int lt), .val (.int t0), .val (.int t1), .unset, .unset, .unset, .unset, .unset, .unset, .unset, .unset, .unset, .unset] [])
        refine Go.of (fun _ => XS.iloadN H3.here hx rfl (hb hby at_55) rfl) ?_
        show Go p e below _ T2 (mkF m 56 #[.val (.int p0), .val (.int p1), .val (.int p2), .val (.int p3), .val (.int p4), .val (.int p5), .val (.int ki), .val (own_kind ki w0 w1 w2 w3 w4 w5), .val (.int lt), .val (.int t0), .val (.int t1), .unset, .unset, .unset, .unset, .unset, .unset, .unset, .unset, .unset, .unset] [(.int p2)])
        refine Go.of (fun _ => XS.sipush H3.here hx rfl (hb hby at_56)) ?_
        show Go p e below _ T2 (mkF m 59 #[.val (.int p0), .val (.int p1), .val (.int p2), .val (.int p3), .val (.int p4), .val (.int p5), .val (.int ki), .val (own_kind ki w0 w1 w2 w3 w4 w5), .val (.int lt), .val (.int t0), .val (.int t1), .unset, .unset, .unset, .unset, .unset, .unset, .unset, .unset, .unset, .unset] [(.int (255 : Int32)), (.int p2)])
        refine Go.of (fun _ => XS.iand H3.here hx rfl (hb hby at_59) rfl) ?_
        show Go p e below _ T2 (mkF m 60 #[.val (.int p0), .val (.int p1), .val (.int p2), .val (.int p3), .val (.int p4), .val (.int p5), .val (.int ki), .val (own_kind ki w0 w1 w2 w3 w4 w5), .val (.int lt), .val (.int t0), .val (.int t1), .unset, .unset, .unset, .unset, .unset, .unset, .unset, .unset, .unset, .unset] [(.int (p2 &&& (255 : Int32)))])
        refine Go.of (fun _ => XS.i2c H3.here hx rfl (hb hby at_60) rfl) ?_
        show Go p e below _ T2 (mkF m 61 #[.val (.int p0), .val (.int p1), .val (.int p2), .val (.int p3), .val (.int p4), .val (.int p5), .val (.int ki), .val (own_kind ki w0 w1 w2 w3 w4 w5), .val (.int lt), .val (.int t0), .val (.int t1), .unset, .unset, .unset, .unset, .unset, .unset, .unset, .unset, .unset, .unset] [(.int ((p2 &&& (255 : Int32)).toUInt32.toUInt16.toUInt32.toInt32))])
        refine Go.of (fun _ => XS.istore H3.here hx rfl (hb hby at_61) rfl (l' := #[.val (.int p0), .val (.int p1), .val (.int p2), .val (.int p3), .val (.int p4), .val (.int p5), .val (.int ki), .val (own_kind ki w0 w1 w2 w3 w4 w5), .val (.int lt), .val (.int t0), .val (.int t1), .val (.int ((p2 &&& (255 : Int32)).toUInt32.toUInt16.toUInt32.toInt32)), .unset, .unset, .unset, .unset, .unset, .unset, .unset, .unset, .unset]) rfl) ?_
        show Go p e below _ T2 (mkF m 63 #[.val (.int p0), .val (.int p1), .val (.int p2), .val (.int p3), .val (.int p4), .val (.int p5), .val (.int ki), .val (own_kind ki w0 w1 w2 w3 w4 w5), .val (.int lt), .val (.int t0), .val (.int t1), .val (.int ((p2 &&& (255 : Int32)).toUInt32.toUInt16.toUInt32.toInt32)), .unset, .unset, .unset, .unset, .unset, .unset, .unset, .unset, .unset] [])
        exact J63_127 lt t0 t1 ((p2 &&& (255 : Int32)).toUInt32.toUInt16.toUInt32.toInt32) hlt ht0 ht1 (own_ch _)
      · skip
        refine Go.of (fun _ => XS.ifNo H3.here hx rfl (hb hby at_47) rfl ((if0 _ _).trans (feq hc130).1)) ?_
        show Go p e below _ T2 (mkF m 50 #[.val (.int p0), .val (.int p1), .val (.int p2), .val (.int p3), .val (.int p4), .val (.int p5), .val (.int ki), .val (own_kind ki w0 w1 w2 w3 w4 w5), .val (.int lt), .val (.int t0), .val (.int t1), .unset, .unset, .unset, .unset, .unset, .unset, .unset, .unset, .unset, .unset] [])
        refine Go.of (fun _ => XS.iload H3.here hx rfl (hb hby at_50) rfl) ?_
        show Go p e below _ T2 (mkF m 52 #[.val (.int p0), .val (.int p1), .val (.int p2), .val (.int p3), .val (.int p4), .val (.int p5), .val (.int ki), .val (own_kind ki w0 w1 w2 w3 w4 w5), .val (.int lt), .val (.int t0), .val (.int t1), .unset, .unset, .unset, .unset, .unset, .unset, .unset, .unset, .unset, .unset] [(.int t0)])
        refine Go.of (fun _ => XS.goto H3.here hx rfl (pc0 := 52) (pc' := 61) rfl (hb hby at_52) (by decide) (by decide)) ?_
        show Go p e below _ T2 (mkF m 61 #[.val (.int p0), .val (.int p1), .val (.int p2), .val (.int p3), .val (.int p4), .val (.int p5), .val (.int ki), .val (own_kind ki w0 w1 w2 w3 w4 w5), .val (.int lt), .val (.int t0), .val (.int t1), .unset, .unset, .unset, .unset, .unset, .unset, .unset, .unset, .unset, .unset] [(.int t0)])
        refine Go.of (fun _ => XS.istore H3.here hx rfl (hb hby at_61) rfl (l' := #[.val (.int p0), .val (.int p1), .val (.int p2), .val (.int p3), .val (.int p4), .val (.int p5), .val (.int ki), .val (own_kind ki w0 w1 w2 w3 w4 w5), .val (.int lt), .val (.int t0), .val (.int t1), .val (.int t0), .unset, .unset, .unset, .unset, .unset, .unset, .unset, .unset, .unset]) rfl) ?_
        show Go p e below _ T2 (mkF m 63 #[.val (.int p0), .val (.int p1), .val (.int p2), .val (.int p3), .val (.int p4), .val (.int p5), .val (.int ki), .val (own_kind ki w0 w1 w2 w3 w4 w5), .val (.int lt), .val (.int t0), .val (.int t1), .val (.int t0), .unset, .unset, .unset, .unset, .unset, .unset, .unset, .unset, .unset] [])
        exact J63_127 lt t0 t1 t0 hlt ht0 ht1 ht0
    show Go p e below _ T2 (mkF m 16 #[.val (.int p0), .val (.int p1), .val (.int p2), .val (.int p3), .val (.int p4), .val (.int p5), .val (.int ki), .val (own_kind ki w0 w1 w2 w3 w4 w5), .unset, .unset, .unset, .unset, .unset, .unset, .unset, .unset, .unset, .unset, .unset, .unset, .unset] [])
    refine Go.of (fun _ => XS.iload H3.here hx rfl (hb hby at_16) rfl) ?_
    show Go p e below _ T2 (mkF m 18 #[.val (.int p0), .val (.int p1), .val (.int p2), .val (.int p3), .val (.int p4), .val (.int p5), .val (.int ki), .val (own_kind ki w0 w1 w2 w3 w4 w5), .unset, .unset, .unset, .unset, .unset, .unset, .unset, .unset, .unset, .unset, .unset, .unset, .unset] [(.int p5)])
    refine own_ldcI H3 hx hown (ow hw 0 rfl) rfl (hb hby at_18) ?_
    show Go p e below _ T2 (mkF m 20 #[.val (.int p0), .val (.int p1), .val (.int p2), .val (.int p3), .val (.int p4), .val (.int p5), .val (.int ki), .val (own_kind ki w0 w1 w2 w3 w4 w5), .unset, .unset, .unset, .unset, .unset, .unset, .unset, .unset, .unset, .unset, .unset, .unset, .unset] [(.int (2147483647 : Int32)), (.int p5)])
    refine Go.of (fun _ => XS.iand H3.here hx rfl (hb hby at_20) rfl) ?_
    show Go p e below _ T2 (mkF m 21 #[.val (.int p0), .val (.int p1), .val (.int p2), .val (.int p3), .val (.int p4), .val (.int p5), .val (.int ki), .val (own_kind ki w0 w1 w2 w3 w4 w5), .unset, .unset, .unset, .unset, .unset, .unset, .unset, .unset, .unset, .unset, .unset, .unset, .unset] [(.int (p5 &&& (2147483647 : Int32)))])
    refine Go.of (fun _ => XS.iconst H3.here hx rfl (hb hby at_21)) ?_
    show Go p e below _ T2 (mkF m 22 #[.val (.int p0), .val (.int p1), .val (.int p2), .val (.int p3), .val (.int p4), .val (.int p5), .val (.int ki), .val (own_kind ki w0 w1 w2 w3 w4 w5), .unset, .unset, .unset, .unset, .unset, .unset, .unset, .unset, .unset, .unset, .unset, .unset, .unset] [(.int (3 : Int32)), (.int (p5 &&& (2147483647 : Int32)))])
    refine own_irem H3 hx rfl (hb hby at_22) rfl (by decide) ?_
    show Go p e below _ T2 (mkF m 23 #[.val (.int p0), .val (.int p1), .val (.int p2), .val (.int p3), .val (.int p4), .val (.int p5), .val (.int ki), .val (own_kind ki w0 w1 w2 w3 w4 w5), .unset, .unset, .unset, .unset, .unset, .unset, .unset, .unset, .unset, .unset, .unset, .unset, .unset] [(.int ((p5 &&& (2147483647 : Int32)) % (3 : Int32)))])
    refine Go.of (fun _ => XS.istore H3.here hx rfl (hb hby at_23) rfl (l' := #[.val (.int p0), .val (.int p1), .val (.int p2), .val (.int p3), .val (.int p4), .val (.int p5), .val (.int ki), .val (own_kind ki w0 w1 w2 w3 w4 w5), .val (.int ((p5 &&& (2147483647 : Int32)) % (3 : Int32))), .unset, .unset, .unset, .unset, .unset, .unset, .unset, .unset, .unset, .unset, .unset, .unset]) rfl) ?_
    show Go p e below _ T2 (mkF m 25 #[.val (.int p0), .val (.int p1), .val (.int p2), .val (.int p3), .val (.int p4), .val (.int p5), .val (.int ki), .val (own_kind ki w0 w1 w2 w3 w4 w5), .val (.int ((p5 &&& (2147483647 : Int32)) % (3 : Int32))), .unset, .unset, .unset, .unset, .unset, .unset, .unset, .unset, .unset, .unset, .unset, .unset] [])
    refine Go.of (fun _ => XS.iloadN H3.here hx rfl (hb hby at_25) rfl) ?_
    show Go p e below _ T2 (mkF m 26 #[.val (.int p0), .val (.int p1), .val (.int p2), .val (.int p3), .val (.int p4), .val (.int p5), .val (.int ki), .val (own_kind ki w0 w1 w2 w3 w4 w5), .val (.int ((p5 &&& (2147483647 : Int32)) % (3 : Int32))), .unset, .unset, .unset, .unset, .unset, .unset, .unset, .unset, .unset, .unset, .unset, .unset] [(.int p1)])
    refine Go.of (fun _ => XS.sipush H3.here hx rfl (hb hby at_26)) ?_
    show Go p e below _ T2 (mkF m 29 #[.val (.int p0), .val (.int p1), .val (.int p2), .val (.int p3), .val (.int p4), .val (.int p5), .val (.int ki), .val (own_kind ki w0 w1 w2 w3 w4 w5), .val (.int ((p5 &&& (2147483647 : Int32)) % (3 : Int32))), .unset, .unset, .unset, .unset, .unset, .unset, .unset, .unset, .unset, .unset, .unset, .unset] [(.int (255 : Int32)), (.int p1)])
    refine Go.of (fun _ => XS.iand H3.here hx rfl (hb hby at_29) rfl) ?_
    show Go p e below _ T2 (mkF m 30 #[.val (.int p0), .val (.int p1), .val (.int p2), .val (.int p3), .val (.int p4), .val (.int p5), .val (.int ki), .val (own_kind ki w0 w1 w2 w3 w4 w5), .val (.int ((p5 &&& (2147483647 : Int32)) % (3 : Int32))), .unset, .unset, .unset, .unset, .unset, .unset, .unset, .unset, .unset, .unset, .unset, .unset] [(.int (p1 &&& (255 : Int32)))])
    refine Go.of (fun _ => XS.i2c H3.here hx rfl (hb hby at_30) rfl) ?_
    show Go p e below _ T2 (mkF m 31 #[.val (.int p0), .val (.int p1), .val (.int p2), .val (.int p3), .val (.int p4), .val (.int p5), .val (.int ki), .val (own_kind ki w0 w1 w2 w3 w4 w5), .val (.int ((p5 &&& (2147483647 : Int32)) % (3 : Int32))), .unset, .unset, .unset, .unset, .unset, .unset, .unset, .unset, .unset, .unset, .unset, .unset] [(.int ((p1 &&& (255 : Int32)).toUInt32.toUInt16.toUInt32.toInt32))])
    refine Go.of (fun _ => XS.istore H3.here hx rfl (hb hby at_31) rfl (l' := #[.val (.int p0), .val (.int p1), .val (.int p2), .val (.int p3), .val (.int p4), .val (.int p5), .val (.int ki), .val (own_kind ki w0 w1 w2 w3 w4 w5), .val (.int ((p5 &&& (2147483647 : Int32)) % (3 : Int32))), .val (.int ((p1 &&& (255 : Int32)).toUInt32.toUInt16.toUInt32.toInt32)), .unset, .unset, .unset, .unset, .unset, .unset, .unset, .unset, .unset, .unset, .unset]) rfl) ?_
    show Go p e below _ T2 (mkF m 33 #[.val (.int p0), .val (.int p1), .val (.int p2), .val (.int p3), .val (.int p4), .val (.int p5), .val (.int ki), .val (own_kind ki w0 w1 w2 w3 w4 w5), .val (.int ((p5 &&& (2147483647 : Int32)) % (3 : Int32))), .val (.int ((p1 &&& (255 : Int32)).toUInt32.toUInt16.toUInt32.toInt32)), .unset, .unset, .unset, .unset, .unset, .unset, .unset, .unset, .unset, .unset, .unset] [])
    refine Go.of (fun _ => XS.iloadN H3.here hx rfl (hb hby at_33) rfl) ?_
    show Go p e below _ T2 (mkF m 34 #[.val (.int p0), .val (.int p1), .val (.int p2), .val (.int p3), .val (.int p4), .val (.int p5), .val (.int ki), .val (own_kind ki w0 w1 w2 w3 w4 w5), .val (.int ((p5 &&& (2147483647 : Int32)) % (3 : Int32))), .val (.int ((p1 &&& (255 : Int32)).toUInt32.toUInt16.toUInt32.toInt32)), .unset, .unset, .unset, .unset, .unset, .unset, .unset, .unset, .unset, .unset, .unset] [(.int p1)])
    refine Go.of (fun _ => XS.bipush H3.here hx rfl (hb hby at_34)) ?_
    show Go p e below _ T2 (mkF m 36 #[.val (.int p0), .val (.int p1), .val (.int p2), .val (.int p3), .val (.int p4), .val (.int p5), .val (.int ki), .val (own_kind ki w0 w1 w2 w3 w4 w5), .val (.int ((p5 &&& (2147483647 : Int32)) % (3 : Int32))), .val (.int ((p1 &&& (255 : Int32)).toUInt32.toUInt16.toUInt32.toInt32)), .unset, .unset, .unset, .unset, .unset, .unset, .unset, .unset, .unset, .unset, .unset] [(.int (8 : Int32)), (.int p1)])
    refine Go.of (fun _ => XS.iushr H3.here hx rfl (hb hby at_36) rfl) ?_
    show Go p e below _ T2 (mkF m 37 #[.val (.int p0), .val (.int p1), .val (.int p2), .val (.int p3), .val (.int p4), .val (.int p5), .val (.int ki), .val (own_kind ki w0 w1 w2 w3 w4 w5), .val (.int ((p5 &&& (2147483647 : Int32)) % (3 : Int32))), .val (.int ((p1 &&& (255 : Int32)).toUInt32.toUInt16.toUInt32.toInt32)), .unset, .unset, .unset, .unset, .unset, .unset, .unset, .unset, .unset, .unset, .unset] [(.int ((p1.toUInt32 >>> ((8 : Int32) &&& 31).toUInt32).toInt32))])
    refine Go.of (fun _ => XS.sipush H3.here hx rfl (hb hby at_37)) ?_
    show Go p e below _ T2 (mkF m 40 #[.val (.int p0), .val (.int p1), .val (.int p2), .val (.int p3), .val (.int p4), .val (.int p5), .val (.int ki), .val (own_kind ki w0 w1 w2 w3 w4 w5), .val (.int ((p5 &&& (2147483647 : Int32)) % (3 : Int32))), .val (.int ((p1 &&& (255 : Int32)).toUInt32.toUInt16.toUInt32.toInt32)), .unset, .unset, .unset, .unset, .unset, .unset, .unset, .unset, .unset, .unset, .unset] [(.int (255 : Int32)), (.int ((p1.toUInt32 >>> ((8 : Int32) &&& 31).toUInt32).toInt32))])
    refine Go.of (fun _ => XS.iand H3.here hx rfl (hb hby at_40) rfl) ?_
    show Go p e below _ T2 (mkF m 41 #[.val (.int p0), .val (.int p1), .val (.int p2), .val (.int p3), .val (.int p4), .val (.int p5), .val (.int ki), .val (own_kind ki w0 w1 w2 w3 w4 w5), .val (.int ((p5 &&& (2147483647 : Int32)) % (3 : Int32))), .val (.int ((p1 &&& (255 : Int32)).toUInt32.toUInt16.toUInt32.toInt32)), .unset, .unset, .unset, .unset, .unset, .unset, .unset, .unset, .unset, .unset, .unset] [(.int (((p1.toUInt32 >>> ((8 : Int32) &&& 31).toUInt32).toInt32) &&& (255 : Int32)))])
    refine Go.of (fun _ => XS.i2c H3.here hx rfl (hb hby at_41) rfl) ?_
    show Go p e below _ T2 (mkF m 42 #[.val (.int p0), .val (.int p1), .val (.int p2), .val (.int p3), .val (.int p4), .val (.int p5), .val (.int ki), .val (own_kind ki w0 w1 w2 w3 w4 w5), .val (.int ((p5 &&& (2147483647 : Int32)) % (3 : Int32))), .val (.int ((p1 &&& (255 : Int32)).toUInt32.toUInt16.toUInt32.toInt32)), .unset, .unset, .unset, .unset, .unset, .unset, .unset, .unset, .unset, .unset, .unset] [(.int ((((p1.toUInt32 >>> ((8 : Int32) &&& 31).toUInt32).toInt32) &&& (255 : Int32)).toUInt32.toUInt16.toUInt32.toInt32))])
    refine Go.of (fun _ => XS.istore H3.here hx rfl (hb hby at_42) rfl (l' := #[.val (.int p0), .val (.int p1), .val (.int p2), .val (.int p3), .val (.int p4), .val (.int p5), .val (.int ki), .val (own_kind ki w0 w1 w2 w3 w4 w5), .val (.int ((p5 &&& (2147483647 : Int32)) % (3 : Int32))), .val (.int ((p1 &&& (255 : Int32)).toUInt32.toUInt16.toUInt32.toInt32)), .val (.int ((((p1.toUInt32 >>> ((8 : Int32) &&& 31).toUInt32).toInt32) &&& (255 : Int32)).toUInt32.toUInt16.toUInt32.toInt32)), .unset, .unset, .unset, .unset, .unset, .unset, .unset, .unset, .unset, .unset]) rfl) ?_
    show Go p e below _ T2 (mkF m 44 #[.val (.int p0), .val (.int p1), .val (.int p2), .val (.int p3), .val (.int p4), .val (.int p5), .val (.int ki), .val (own_kind ki w0 w1 w2 w3 w4 w5), .val (.int ((p5 &&& (2147483647 : Int32)) % (3 : Int32))), .val (.int ((p1 &&& (255 : Int32)).toUInt32.toUInt16.toUInt32.toInt32)), .val (.int ((((p1.toUInt32 >>> ((8 : Int32) &&& 31).toUInt32).toInt32) &&& (255 : Int32)).toUInt32.toUInt16.toUInt32.toInt32)), .unset, .unset, .unset, .unset, .unset, .unset, .unset, .unset, .unset, .unset] [])
    exact J44_129 ((p5 &&& (2147483647 : Int32)) % (3 : Int32)) ((p1 &&& (255 : Int32)).toUInt32.toUInt16.toUInt32.toInt32) ((((p1.toUInt32 >>> ((8 : Int32) &&& 31).toUInt32).toInt32) &&& (255 : Int32)).toUInt32.toUInt16.toUInt32.toInt32) (own_rng3 _) (own_ch _) (own_ch _)
  show Go p e below _ s₁ (mkF m 0 #[.val (.int p0), .val (.int p1), .val (.int p2), .val (.int p3), .val (.int p4), .val (.int p5), .unset, .unset, .unset, .unset, .unset, .unset, .unset, .unset, .unset, .unset, .unset, .unset, .unset, .unset, .unset] [])
  refine Go.of (fun _ => XS.iloadN H0.here hx rfl (hb hby at_0) rfl) ?_
  show Go p e below _ s₁ (mkF m 1 #[.val (.int p0), .val (.int p1), .val (.int p2), .val (.int p3), .val (.int p4), .val (.int p5), .unset, .unset, .unset, .unset, .unset, .unset, .unset, .unset, .unset, .unset, .unset, .unset, .unset, .unset, .unset] [(.int p0)])
  refine own_ldcI H0 hx hown (ow hw 0 rfl) rfl (hb hby at_1) ?_
  show Go p e below _ s₁ (mkF m 3 #[.val (.int p0), .val (.int p1), .val (.int p2), .val (.int p3), .val (.int p4), .val (.int p5), .unset, .unset, .unset, .unset, .unset, .unset, .unset, .unset, .unset, .unset, .unset, .unset, .unset, .unset, .unset] [(.int (2147483647 : Int32)), (.int p0)])
  refine Go.of (fun _ => XS.iand H0.here hx rfl (hb hby at_3) rfl) ?_
  show Go p e below _ s₁ (mkF m 4 #[.val (.int p0), .val (.int p1), .val (.int p2), .val (.int p3), .val (.int p4), .val (.int p5), .unset, .unset, .unset, .unset, .unset, .unset, .unset, .unset, .unset, .unset, .unset, .unset, .unset, .unset, .unset] [(.int (p0 &&& (2147483647 : Int32)))])
  refine Go.of (fun _ => XS.bipush H0.here hx rfl (hb hby at_4)) ?_
  show Go p e below _ s₁ (mkF m 6 #[.val (.int p0), .val (.int p1), .val (.int p2), .val (.int p3), .val (.int p4), .val (.int p5), .unset, .unset, .unset, .unset, .unset, .unset, .unset, .unset, .unset, .unset, .unset, .unset, .unset, .unset, .unset] [(.int (6 : Int32)), (.int (p0 &&& (2147483647 : Int32)))])
  refine own_irem H0 hx rfl (hb hby at_6) rfl (by decide) ?_
  show Go p e below _ s₁ (mkF m 7 #[.val (.int p0), .val (.int p1), .val (.int p2), .val (.int p3), .val (.int p4), .val (.int p5), .unset, .unset, .unset, .unset, .unset, .unset, .unset, .unset, .unset, .unset, .unset, .unset, .unset, .unset, .unset] [(.int ((p0 &&& (2147483647 : Int32)) % (6 : Int32)))])
  refine Go.of (fun _ => XS.istore H0.here hx rfl (hb hby at_7) rfl (l' := #[.val (.int p0), .val (.int p1), .val (.int p2), .val (.int p3), .val (.int p4), .val (.int p5), .val (.int ((p0 &&& (2147483647 : Int32)) % (6 : Int32))), .unset, .unset, .unset, .unset, .unset, .unset, .unset, .unset, .unset, .unset, .unset, .unset, .unset, .unset]) rfl) ?_
  show Go p e below _ s₁ (mkF m 9 #[.val (.int p0), .val (.int p1), .val (.int p2), .val (.int p3), .val (.int p4), .val (.int p5), .val (.int ((p0 &&& (2147483647 : Int32)) % (6 : Int32))), .unset, .unset, .unset, .unset, .unset, .unset, .unset, .unset, .unset, .unset, .unset, .unset, .unset, .unset] [])
  exact J9_1 ((p0 &&& (2147483647 : Int32)) % (6 : Int32)) (own_rng6 _)
set_option maxRecDepth 65536 in
set_option maxHeartbeats 40000000 in
theorem comes_1 {Post : Tables → Env → Array Value → State → Outcome → State → Prop} (hpost : ∀ tb e args s v u, (limb_1_1.after args s (.returned v) u = true ∧ limb_1_2.after args s (.returned v) u = true ∧ True) → ReturnedEndW s (.returned v) u (Jvm.fieldLocs frame_1_writes args s ++ Jvm.arrayLocs frame_1_arrays args s ++ Jvm.staticLocs frame_1_statics s) 24 1152 → Post tb e args s (.returned v) u) :
    ArmFor flags0 classFile x code maxLocals ret World_1 tables_1 room_1 Calls_1 rest_1 Pre_1 Post := by
  intro l hfl _ _ p e ha hc hk s m args below hf hA hF happ hP
  obtain ⟨hcalls, hrest, hpre⟩ := hP
  obtain ⟨-, -, -, hnamed, -, -, -, hat⟩ := (Spec.applies_iff hf).mp happ
  obtain ⟨hg, hn⟩ := and_e (Cond.before_iff.mp (show (Jvm.Cond.and given_1 narrow_1).before args s = true from hpre))
  obtain ⟨g0, gg0⟩ := and_e hg
  obtain ⟨g1, gg1⟩ := and_e gg0
  obtain ⟨g2, gg2⟩ := and_e gg1
  obtain ⟨g3, gg3⟩ := and_e gg2
  obtain ⟨g4, gg4⟩ := and_e gg3
  obtain ⟨g5, gg5⟩ := and_e gg4
  obtain ⟨u0, u1, u2, u3, u4, u5, rfl⟩ : ∃ u0 u1 u2 u3 u4 u5 : Value, args = #[u0, u1, u2, u3, u4, u5] := by
    have hs : args.size = 6 := by simpa [Cond.value, given_1] using g0
    obtain ⟨L⟩ := args
    match L, hs with
    | [u0, u1, u2, u3, u4, u5], _ => exact ⟨u0, u1, u2, u3, u4, u5, rfl⟩
  have hw := fun d (hd : d ∈ tables_1) => atoms_spec (ws := Jvm.Cond.code x code maxLocals ret :: tables_1) hat d (List.mem_cons_of_mem _ hd)
  obtain ⟨i0, ei0⟩ := is_v g1
  obtain rfl : u0 = (.int i0) := Option.some.inj ei0
  obtain ⟨i1, ei1⟩ := is_v g2
  obtain rfl : u1 = (.int i1) := Option.some.inj ei1
  obtain ⟨i2, ei2⟩ := is_v g3
  obtain rfl : u2 = (.int i2) := Option.some.inj ei2
  obtain ⟨i3, ei3⟩ := is_v g4
  obtain rfl : u3 = (.int i3) := Option.some.inj ei3
  obtain ⟨i4, ei4⟩ := is_v g5
  obtain rfl : u4 = (.int i4) := Option.some.inj ei4
  obtain ⟨i5, ei5⟩ := is_v gg5
  obtain rfl : u5 = (.int i5) := Option.some.inj ei5
  obtain ⟨x0, y0⟩ := and_e hn
  obtain ⟨x1, y1⟩ := and_e y0
  obtain ⟨x2, y2⟩ := and_e y1
  obtain ⟨x3, y3⟩ := and_e y2
  obtain ⟨x4, y4⟩ := and_e y3
  obtain ⟨x5, y5⟩ := and_e y4
  obtain ⟨x6, y6⟩ := and_e y5
  obtain ⟨x7, y7⟩ := and_e y6
  obtain ⟨x8, y8⟩ := and_e y7
  obtain ⟨x9, y9⟩ := and_e y8
  obtain ⟨x10, y10⟩ := and_e y9
  obtain ⟨hsets, hown0⟩ := atoms_of _ (rest_1_c_eq ▸ (show rest_1_c.before _ s = true from hrest))
  obtain ⟨a0, e0⟩ := exa_v x0
  have S0 := Sta.start e0 (Or.inr ⟨(ow hw 6 rfl), (ow hw 7 rfl)⟩)
  have Q0 := own_fldI e0 x2
  obtain ⟨a1, e1⟩ := exa_v x4
  have S1 := Sta.start e1 (Or.inr ⟨(ow hw 6 rfl), (ow hw 76 rfl)⟩)
  have Q1 := own_fldI e1 x5
  obtain ⟨a2, e2⟩ := exa_v x8
  have S2 := Sta.start e2 (Or.inr ⟨(ow hw 6 rfl), (ow hw 103 rfl)⟩)
  have Q2 := own_fldI e2 x9
  obtain ⟨a3, e3⟩ := exa_v x6
  have S3 := Sta.start e3 (Or.inr ⟨(ow hw 6 rfl), (ow hw 100 rfl)⟩)
  have Q3 := own_fldI e3 x7
  obtain ⟨a4, e4⟩ := exa_v x1
  have S4 := Sta.start e4 (Or.inr ⟨(ow hw 6 rfl), (ow hw 64 rfl)⟩)
  have Q4 := own_fldI e4 x3
  obtain ⟨a5, e5⟩ := exa_v x10
  have S5 := Sta.start e5 (Or.inr ⟨(ow hw 6 rfl), (ow hw 105 rfl)⟩)
  have Q5 := own_fldI e5 y10
  have n5 := not_v (Cond.before_iff.mp (hsets _ (List.mem_of_getElem? (i := 2) rfl)))
  obtain ⟨zc, ezc⟩ := is_v (Cond.before_iff.mp (hsets _ (List.mem_of_getElem? (i := 1) rfl)))
  have SC := Sta.start ezc (Or.inl (hsets _ (List.mem_of_getElem? (i := 0) rfl)))
  have hzc : ¬ (zc = (0 : Int32)) := gotF (Cond.eq_ints ezc (Term.int_eval (0))) n5
  have hE : EW s #[.int i0, .int i1, .int i2, .int i3, .int i4, .int i5] ELx := own_hE hw
  have hC : CHv s ELx s.vm s.heap := own_start hE hcalls (hsets _ (List.mem_of_getElem? (i := 2) rfl)) (ow hw 26 rfl) (ow hw 12 rfl)
  obtain ⟨n, o, h1, h2, h3, _, L, rfl, ⟨N, -, rfl⟩, -, hq⟩ := rm_law l s _ hw hE i0 i1 i2 i3 i4 i5 a0 a1 a2 a3 a4 a5 zc s.heap ⟨Nat.le_refl _, fun _ _ q => q⟩ S0 S1 S2 S3 S4 S5 Q0 Q1 Q2 Q3 Q4 Q5 SC hzc p e ha hc hk s m _ below hf ((Spec.applies_iff_loose hf).mp happ).1 ⟨rfl, State.Warmed39.refl s, rfl, hC, (fun _ hq => nomatch hq)⟩ trivial
  have hq : ReturnedEndW s _ _ L room_1.cells room_1.slots := hq
  exact ⟨n, _, h1, h2, h3, hpost _ _ _ _ _ _ ⟨Cond.after_iff.mpr rfl, Cond.after_iff.mpr (eq_i res_at (Term.int_eval (1)) rfl), trivial⟩ ⟨hq.1, hq.2.1, hq.2.2.1, (hq.2.2.2.sift fun y hy => Or.inr (N y hy)).mono (by decide) (by decide)⟩⟩
theorem main_1_1 : Claimed_1_1 := comes_1 fun _ _ _ _ _ _ h hF => ⟨h.1, hF⟩
theorem main_1_2 : Claimed_1_2 := comes_1 fun _ _ _ _ _ _ h hF => ⟨h.2.1, hF⟩
end Jvm.Pilot.@@N@@
namespace Jvm.Pilot.@@N@@
open Jvm Jvm.ClassFile Sem Op Lib Jvm.Free Jvm.Stand Jvm.Pilot.@@N@@.Jvm.D
/-! MADE BY PROGRAM (witnessworld.py) out of the Statement's table words and the real class files: 23 classes; the members and pool entries that the words name. The judged class is class 1, her method 3. -/
namespace start1
open Jvm.ClassFile
def u (s : String) : CpInfo := .utf8 (stringToUtf16 s)
/-- a pool by its gaps: so many unusable entries, then the entry; so many at the end -/
def gap : Nat → List CpInfo → List CpInfo
  | 0, r => r
  | n + 1, r => .unusable :: gap n r
def poolList (es : List (Nat × CpInfo)) (last : Nat) : List CpInfo := es.foldr (fun e r => gap e.1 (e.2 :: r)) (gap last [])
def pool (es : List (Nat × CpInfo)) (last : Nat) : Array CpInfo := ⟨poolList es last⟩
def fileOf (pool : Array CpInfo) (this : Nat) (attrs : Array Attribute := #[]) (ms : Array MethodInfo := #[]) (fl : Nat := 33) (sup : Nat := 0) (ifs : Array Nat := #[]) (fds : Array FieldInfo := #[]) : ClassFile where
  minorVersion := 0
  majorVersion := 65
  constantPool := pool
  accessFlags := fl
  thisClass := this
  superClass := sup
  interfaces := ifs
  fields := fds
  methods := ms
  attributes := attrs
def plain (name : String) (sup : Option ClassId) : Class where
  name := name
  kind := .ordinary
  loader := none
  accessFlags := 33
  super := sup
  interfaces := #[]
  cf := none
  fields := #[]
  methods := #[]
  instanceTypes := #[]
  staticTypes := #[]
  resolved := #[]
  callSites := []
  init := .initialized
  statics := none
  mirror := none

def pool0 : Array CpInfo := pool [(5, u "<init>"), (0, u "()V"), (1, .class_ 10), (1, u "java/lang/Object")] 113

def k0c0 : Code := { maxStack := 0, maxLocals := 1, code := object_method_1_code, exceptionTable := #[], attributes := #[] }
def k0m0 : Method := { name := "<init>", desc := "()V", sig := { parameters := [], returnType := none }, accessFlags := 1, code := some k0c0 }
/-- java/lang/Object -/
def k0 : Class := { plain "java/lang/Object" none with
  accessFlags := 33
  interfaces := #[]
  cf := some (fileOf pool0 8 #[] #[{ accessFlags := 1, nameIndex := 5, descriptorIndex := 6, attributes := #[] }] 33 0 #[] #[])
  fields := #[]
  methods := #[k0m0]
  instanceTypes := #[]
  staticTypes := #[]
  resolved := Array.replicate 124 none
  statics := none }

def pool1 : Array CpInfo := pool [(2, .class_ 4), (1, u "java/lang/Object"), (0, u "<init>"), (0, u "()V"), (0, .class_ 8), (0, u "java/lang/String"), (0, .methodref 7 10), (0, .nameAndType 5 11), (0, u "([C)V"), (0, .fieldref 13 14), (0, .class_ 15), (0, .nameAndType 16 17), (0, u "com/example/entitled/entitled/lang/Token$Kind"), (0, u "IDENTIFIER"), (0, u "Lcom/example/entitled/entitled/lang/Token$Kind;"), (0, .fieldref 13 19), (0, .nameAndType 20 17), (0, u "KEYWORD"), (0, .fieldref 13 22), (0, .nameAndType 23 17), (0, u "STRING"), (0, .fieldref 13 25), (0, .nameAndType 26 17), (0, u "NUMBER"), (0, .fieldref 13 28), (0, .nameAndType 29 17), (0, u "SYMBOL"), (0, .fieldref 13 31), (0, .nameAndType 32 17), (0, u "END"), (0, .integer 2147483647), (0, .methodref 35 36), (0, .class_ 37), (0, .nameAndType 38 39), (0, u "com/example/entitled/entitled/lang/TokenIsOperatorPinLaw"), (0, u "kindOf"), (0, u "(I)Lcom/example/entitled/entitled/lang/Token$Kind;"), (0, .methodref 35 41), (0, .nameAndType 42 43), (0, u "mk"), (0, u "(ICC)Ljava/lang/String;"), (0, .class_ 45), (0, u "com/example/entitled/entitled/lang/Token"), (0, .methodref 44 47), (0, .nameAndType 5 48), (0, u "(Lcom/example/entitled/entitled/lang/Token$Kind;Ljava/lang/String;II)V"), (0, .methodref 44 50), (0, .nameAndType 51 52), (0, u "isOperator"), (0, u "(Ljava/lang/String;)Z"), (3, u "law"), (0, u "(IIIIII)Z")] 4

def k1m0 : Method := { name := "<init>", desc := "()V", sig := { parameters := [], returnType := none }, accessFlags := 1, code := none }
def k1c1 : Code := { maxStack := 6, maxLocals := 3, code := method_2_code, exceptionTable := #[], attributes := #[] }
def k1m1 : Method := { name := "mk", desc := "(ICC)Ljava/lang/String;", sig := { parameters := [.int, .char, .char], returnType := some (.object "java/lang/String") }, accessFlags := 10, code := some k1c1 }
def k1c2 : Code := { maxStack := 2, maxLocals := 1, code := method_3_code, exceptionTable := #[], attributes := #[] }
def k1m2 : Method := { name := "kindOf", desc := "(I)Lcom/example/entitled/entitled/lang/Token$Kind;", sig := { parameters := [.int], returnType := some (.object "com/example/entitled/entitled/lang/Token$Kind") }, accessFlags := 10, code := some k1c2 }
def k1c3 : Code := { maxStack := 6, maxLocals := 21, code := code, exceptionTable := #[], attributes := #[] }
def k1m3 : Method := { name := "law", desc := "(IIIIII)Z", sig := { parameters := [.int, .int, .int, .int, .int, .int], returnType := some .boolean }, accessFlags := 9, code := some k1c3 }
/-- com/example/entitled/entitled/lang/TokenIsOperatorPinLaw -/
def k1 : Class := { plain "com/example/entitled/entitled/lang/TokenIsOperatorPinLaw" (some 0) with
  accessFlags := 49
  interfaces := #[]
  cf := some (fileOf pool1 35 #[] #[{ accessFlags := 1, nameIndex := 5, descriptorIndex := 6, attributes := #[] }, { accessFlags := 10, nameIndex := 42, descriptorIndex := 43, attributes := #[] }, { accessFlags := 10, nameIndex := 38, descriptorIndex := 39, attributes := #[] }, { accessFlags := 9, nameIndex := 56, descriptorIndex := 57, attributes := #[] }] 49 2 #[] #[])
  fields := #[]
  methods := #[k1m0, k1m1, k1m2, k1m3]
  instanceTypes := #[]
  staticTypes := #[]
  resolved := Array.replicate 62 none
  statics := none }

def pool2 : Array CpInfo := pool [(1, .class_ 2), (0, u "java/lang/constant/Constable"), (0, .class_ 4), (0, u "java/lang/Object")] 6

/-- java/lang/constant/Constable -/
def k2 : Class := { plain "java/lang/constant/Constable" (some 0) with
  accessFlags := 1537
  interfaces := #[]
  cf := some (fileOf pool2 1 #[] #[] 1537 3 #[] #[])
  fields := #[]
  methods := #[]
  instanceTypes := #[]
  staticTypes := #[]
  resolved := Array.replicate 11 none
  statics := none }

def pool3 : Array CpInfo := pool [(1, .class_ 2), (0, u "java/lang/Comparable"), (0, .class_ 4), (0, u "java/lang/Object")] 7

/-- java/lang/Comparable -/
def k3 : Class := { plain "java/lang/Comparable" (some 0) with
  accessFlags := 1537
  interfaces := #[]
  cf := some (fileOf pool3 1 #[] #[] 1537 3 #[] #[])
  fields := #[]
  methods := #[]
  instanceTypes := #[]
  staticTypes := #[]
  resolved := Array.replicate 12 none
  statics := none }

def pool4 : Array CpInfo := pool [(1, .class_ 2), (0, u "java/io/Serializable"), (0, .class_ 4), (0, u "java/lang/Object")] 2

/-- java/io/Serializable -/
def k4 : Class := { plain "java/io/Serializable" (some 0) with
  accessFlags := 1537
  interfaces := #[]
  cf := some (fileOf pool4 1 #[] #[] 1537 3 #[] #[])
  fields := #[]
  methods := #[]
  instanceTypes := #[]
  staticTypes := #[]
  resolved := Array.replicate 7 none
  statics := none }

def pool5 : Array CpInfo := pool [(2, .class_ 4), (1, u "java/lang/Enum"), (0, u "name"), (0, u "Ljava/lang/String;"), (2, u "ordinal"), (0, u "I"), (1, .class_ 14), (1, u "java/lang/Object"), (4, u "hash"), (86, .class_ 108), (1, u "java/lang/Enum$EnumDesc"), (2, .class_ 112), (0, u "java/lang/constant/Constable"), (0, .class_ 114), (0, u "java/lang/Comparable"), (0, .class_ 116), (0, u "java/io/Serializable")] 87

/-- java/lang/Enum -/
def k5 : Class := { plain "java/lang/Enum" (some 0) with
  accessFlags := 1057
  interfaces := #[2, 3, 4]
  cf := some (fileOf pool5 2 #[.nestMembers #[106]] #[] 1057 12 #[111, 113, 115] #[{ accessFlags := 18, nameIndex := 5, descriptorIndex := 6, attributes := #[] }, { accessFlags := 18, nameIndex := 9, descriptorIndex := 10, attributes := #[] }, { accessFlags := 2, nameIndex := 19, descriptorIndex := 10, attributes := #[] }])
  fields := #[{ name := "name", type := (.object "java/lang/String"), accessFlags := 18, slot := 0, constantValue := 0 }, { name := "ordinal", type := .int, accessFlags := 18, slot := 1, constantValue := 0 }, { name := "hash", type := .int, accessFlags := 2, slot := 2, constantValue := 0 }]
  methods := #[]
  instanceTypes := #[(.object "java/lang/String"), .int, .int]
  staticTypes := #[]
  resolved := Array.replicate 204 none
  statics := none }

def pool6 : Array CpInfo := pool [(1, .class_ 2), (0, u "com/example/entitled/entitled/lang/Token$Kind"), (2, u "IDENTIFIER"), (0, u "Lcom/example/entitled/entitled/lang/Token$Kind;"), (2, u "KEYWORD"), (2, u "STRING"), (2, u "NUMBER"), (2, u "SYMBOL"), (2, u "END"), (2, u "$VALUES"), (0, u "[Lcom/example/entitled/entitled/lang/Token$Kind;"), (6, .class_ 34), (1, u "java/lang/Enum"), (29, .class_ 65), (0, u "com/example/entitled/entitled/lang/Token")] 2

/-- com/example/entitled/entitled/lang/Token$Kind -/
def k6 : Class := { plain "com/example/entitled/entitled/lang/Token$Kind" (some 5) with
  accessFlags := 16432
  interfaces := #[]
  cf := some (fileOf pool6 1 #[.nestHost 64] #[] 16432 32 #[] #[{ accessFlags := 16409, nameIndex := 5, descriptorIndex := 6, attributes := #[] }, { accessFlags := 16409, nameIndex := 9, descriptorIndex := 6, attributes := #[] }, { accessFlags := 16409, nameIndex := 12, descriptorIndex := 6, attributes := #[] }, { accessFlags := 16409, nameIndex := 15, descriptorIndex := 6, attributes := #[] }, { accessFlags := 16409, nameIndex := 18, descriptorIndex := 6, attributes := #[] }, { accessFlags := 16409, nameIndex := 21, descriptorIndex := 6, attributes := #[] }, { accessFlags := 4122, nameIndex := 24, descriptorIndex := 25, attributes := #[] }])
  fields := #[{ name := "IDENTIFIER", type := (.object "com/example/entitled/entitled/lang/Token$Kind"), accessFlags := 16409, slot := 0, constantValue := 0 }, { name := "KEYWORD", type := (.object "com/example/entitled/entitled/lang/Token$Kind"), accessFlags := 16409, slot := 1, constantValue := 0 }, { name := "STRING", type := (.object "com/example/entitled/entitled/lang/Token$Kind"), accessFlags := 16409, slot := 2, constantValue := 0 }, { name := "NUMBER", type := (.object "com/example/entitled/entitled/lang/Token$Kind"), accessFlags := 16409, slot := 3, constantValue := 0 }, { name := "SYMBOL", type := (.object "com/example/entitled/entitled/lang/Token$Kind"), accessFlags := 16409, slot := 4, constantValue := 0 }, { name := "END", type := (.object "com/example/entitled/entitled/lang/Token$Kind"), accessFlags := 16409, slot := 5, constantValue := 0 }, { name := "$VALUES", type := (.array (.object "com/example/entitled/entitled/lang/Token$Kind")), accessFlags := 4122, slot := 6, constantValue := 0 }]
  methods := #[]
  instanceTypes := #[(.object "java/lang/String"), .int, .int]
  staticTypes := #[(.object "com/example/entitled/entitled/lang/Token$Kind"), (.object "com/example/entitled/entitled/lang/Token$Kind"), (.object "com/example/entitled/entitled/lang/Token$Kind"), (.object "com/example/entitled/entitled/lang/Token$Kind"), (.object "com/example/entitled/entitled/lang/Token$Kind"), (.object "com/example/entitled/entitled/lang/Token$Kind"), (.array (.object "com/example/entitled/entitled/lang/Token$Kind"))]
  resolved := Array.replicate 68 none
  statics := some 0 }

def pool7 : Array CpInfo := pool [(2, .class_ 4), (1, u "java/lang/CharSequence"), (42, .class_ 48), (0, u "java/lang/CharSequence$1CodePointIterator"), (10, .class_ 60), (0, u "java/lang/CharSequence$1CharIterator"), (5, .class_ 67), (0, u "java/lang/Object")] 63

/-- java/lang/CharSequence -/
def k7 : Class := { plain "java/lang/CharSequence" (some 0) with
  accessFlags := 1537
  interfaces := #[]
  cf := some (fileOf pool7 2 #[.nestMembers #[47, 59]] #[] 1537 66 #[] #[])
  fields := #[]
  methods := #[]
  instanceTypes := #[]
  staticTypes := #[]
  resolved := Array.replicate 131 none
  statics := none }

def pool8 : Array CpInfo := pool [(1, .class_ 2), (0, u "java/lang/constant/ConstantDesc"), (0, .class_ 4), (0, u "java/lang/Object")] 32

/-- java/lang/constant/ConstantDesc -/
def k8 : Class := { plain "java/lang/constant/ConstantDesc" (some 0) with
  accessFlags := 1537
  interfaces := #[]
  cf := some (fileOf pool8 1 #[] #[] 1537 3 #[] #[])
  fields := #[]
  methods := #[]
  instanceTypes := #[]
  staticTypes := #[]
  resolved := Array.replicate 37 none
  statics := none }

def pool9 : Array CpInfo := pool [(1, .methodref 2 3), (0, .class_ 4), (0, .nameAndType 5 6), (0, u "java/lang/Object"), (0, u "<init>"), (0, u "()V"), (0, .string 8), (0, u ""), (0, .fieldref 10 11), (0, .class_ 12), (0, .nameAndType 13 14), (0, u "java/lang/String"), (0, u "value"), (0, u "[B"), (0, .fieldref 10 16), (0, .nameAndType 17 18), (0, u "coder"), (0, u "B"), (2, u "hash"), (0, u "I"), (2, u "hashIsZero"), (0, u "Z"), (0, .methodref 10 28), (0, .nameAndType 5 29), (0, u "([CIILjava/lang/Void;)V"), (8, .fieldref 10 39), (0, .nameAndType 40 26), (0, u "COMPACT_STRINGS"), (1, .class_ 44), (1, u "java/lang/StringUTF16"), (0, u "compress"), (1, .methodref 42 48), (0, .nameAndType 49 50), (0, u "coderFromArrayLen"), (0, u "([BI)B"), (56, .class_ 109), (1, u "java/lang/StringLatin1"), (67, .methodref 42 178), (0, .nameAndType 45 179), (0, u "([CII)[B"), (361, .methodref 107 542), (0, .nameAndType 543 544), (0, u "equals"), (0, u "([B[B)Z"), (28, u "(Ljava/lang/Object;)Z"), (1, .class_ 576), (0, u "java/lang/CharSequence"), (22, u "CASE_INSENSITIVE_ORDER"), (0, u "Ljava/util/Comparator;"), (409, u "([C)V"), (90, u "serialPersistentFields"), (0, u "[Ljava/io/ObjectStreamField;"), (0, .class_ 1104), (0, u "java/lang/String$CaseInsensitiveComparator"), (1, .class_ 1107), (0, u "java/io/Serializable"), (0, .class_ 1109), (0, u "java/lang/Comparable"), (0, .class_ 1111), (0, u "java/lang/constant/Constable"), (0, .class_ 1113), (0, u "java/lang/constant/ConstantDesc"), (2, u "serialVersionUID"), (0, u "J"), (3, u "REPL"), (0, u "C"), (2, u "LATIN1"), (1, u "UTF16")] 323

def k9m0 : Method := { name := "<init>", desc := "()V", sig := { parameters := [], returnType := none }, accessFlags := 1, code := none }
def k9c1 : Code := { maxStack := 5, maxLocals := 2, code := jdk_42_method_3_code, exceptionTable := #[], attributes := #[] }
def k9m1 : Method := { name := "<init>", desc := "([C)V", sig := { parameters := [(.array .char)], returnType := none }, accessFlags := 1, code := some k9c1 }
def k9c2 : Code := { maxStack := 2, maxLocals := 3, code := jdk_42_method_66_code, exceptionTable := #[], attributes := #[] }
def k9m2 : Method := { name := "equals", desc := "(Ljava/lang/Object;)Z", sig := { parameters := [(.object "java/lang/Object")], returnType := some .boolean }, accessFlags := 1, code := some k9c2 }
def k9c3 : Code := { maxStack := 4, maxLocals := 6, code := jdk_42_method_149_code, exceptionTable := #[], attributes := #[] }
def k9m3 : Method := { name := "<init>", desc := "([CIILjava/lang/Void;)V", sig := { parameters := [(.array .char), .int, .int, (.object "java/lang/Void")], returnType := none }, accessFlags := 2, code := some k9c3 }
/-- java/lang/String -/
def k9 : Class := { plain "java/lang/String" (some 0) with
  accessFlags := 49
  interfaces := #[4, 3, 7, 2, 8]
  cf := some (fileOf pool9 10 #[.nestMembers #[1103]] #[{ accessFlags := 1, nameIndex := 5, descriptorIndex := 6, attributes := #[] }, { accessFlags := 1, nameIndex := 5, descriptorIndex := 1010, attributes := #[] }, { accessFlags := 1, nameIndex := 543, descriptorIndex := 573, attributes := #[] }, { accessFlags := 2, nameIndex := 5, descriptorIndex := 29, attributes := #[] }] 49 2 #[1106, 1108, 575, 1110, 1112] #[{ accessFlags := 18, nameIndex := 13, descriptorIndex := 14, attributes := #[] }, { accessFlags := 18, nameIndex := 17, descriptorIndex := 18, attributes := #[] }, { accessFlags := 2, nameIndex := 21, descriptorIndex := 22, attributes := #[] }, { accessFlags := 2, nameIndex := 25, descriptorIndex := 26, attributes := #[] }, { accessFlags := 26, nameIndex := 1116, descriptorIndex := 1117, attributes := #[] }, { accessFlags := 24, nameIndex := 40, descriptorIndex := 26, attributes := #[] }, { accessFlags := 26, nameIndex := 1101, descriptorIndex := 1102, attributes := #[] }, { accessFlags := 26, nameIndex := 1121, descriptorIndex := 1122, attributes := #[] }, { accessFlags := 25, nameIndex := 599, descriptorIndex := 600, attributes := #[] }, { accessFlags := 24, nameIndex := 1125, descriptorIndex := 18, attributes := #[] }, { accessFlags := 24, nameIndex := 1127, descriptorIndex := 18, attributes := #[] }])
  fields := #[{ name := "value", type := (.array .byte), accessFlags := 18, slot := 0, constantValue := 0 }, { name := "coder", type := .byte, accessFlags := 18, slot := 1, constantValue := 0 }, { name := "hash", type := .int, accessFlags := 2, slot := 2, constantValue := 0 }, { name := "hashIsZero", type := .boolean, accessFlags := 2, slot := 3, constantValue := 0 }, { name := "serialVersionUID", type := .long, accessFlags := 26, slot := 0, constantValue := 0 }, { name := "COMPACT_STRINGS", type := .boolean, accessFlags := 24, slot := 1, constantValue := 0 }, { name := "serialPersistentFields", type := (.array (.object "java/io/ObjectStreamField")), accessFlags := 26, slot := 2, constantValue := 0 }, { name := "REPL", type := .char, accessFlags := 26, slot := 3, constantValue := 0 }, { name := "CASE_INSENSITIVE_ORDER", type := (.object "java/util/Comparator"), accessFlags := 25, slot := 4, constantValue := 0 }, { name := "LATIN1", type := .byte, accessFlags := 24, slot := 5, constantValue := 0 }, { name := "UTF16", type := .byte, accessFlags := 24, slot := 6, constantValue := 0 }]
  methods := #[k9m0, k9m1, k9m2, k9m3]
  instanceTypes := #[(.array .byte), .byte, .int, .boolean]
  staticTypes := #[.long, .boolean, (.array (.object "java/io/ObjectStreamField")), .char, (.object "java/util/Comparator"), .byte, .byte]
  resolved := Array.replicate 1451 none
  statics := some 1 }

def pool10 : Array CpInfo := pool [(1, .methodref 2 3), (0, .class_ 4), (0, .nameAndType 5 6), (0, u "java/lang/Object"), (0, u "<init>"), (0, u "()V"), (0, .class_ 8), (0, u "java/lang/Record")] 13

def k10c0 : Code := { maxStack := 1, maxLocals := 1, code := jdk_30_method_1_code, exceptionTable := #[], attributes := #[] }
def k10m0 : Method := { name := "<init>", desc := "()V", sig := { parameters := [], returnType := none }, accessFlags := 4, code := some k10c0 }
/-- java/lang/Record -/
def k10 : Class := { plain "java/lang/Record" (some 0) with
  accessFlags := 1057
  interfaces := #[]
  cf := some (fileOf pool10 7 #[] #[{ accessFlags := 4, nameIndex := 5, descriptorIndex := 6, attributes := #[] }] 1057 2 #[] #[])
  fields := #[]
  methods := #[k10m0]
  instanceTypes := #[]
  staticTypes := #[]
  resolved := Array.replicate 22 none
  statics := none }

def pool11 : Array CpInfo := pool [(1, .methodref 2 3), (0, .class_ 4), (0, .nameAndType 5 6), (0, u "java/lang/Record"), (0, u "<init>"), (0, u "()V"), (0, .fieldref 8 9), (0, .class_ 10), (0, .nameAndType 11 12), (0, u "com/example/entitled/entitled/lang/Token"), (0, u "kind"), (0, u "Lcom/example/entitled/entitled/lang/Token$Kind;"), (0, .fieldref 8 14), (0, .nameAndType 15 16), (0, u "text"), (0, u "Ljava/lang/String;"), (0, .fieldref 8 18), (0, .nameAndType 19 20), (0, u "line"), (0, u "I"), (0, .fieldref 8 22), (0, .nameAndType 23 20), (0, u "column"), (0, .methodref 25 26), (0, .class_ 27), (0, .nameAndType 28 29), (0, u "java/lang/String"), (0, u "equals"), (0, u "(Ljava/lang/Object;)Z"), (0, .fieldref 31 32), (0, .class_ 33), (0, .nameAndType 34 12), (0, u "com/example/entitled/entitled/lang/Token$Kind"), (0, u "SYMBOL"), (0, .methodref 8 36), (0, .nameAndType 37 38), (0, u "is"), (0, u "(Lcom/example/entitled/entitled/lang/Token$Kind;Ljava/lang/String;)Z"), (0, .fieldref 31 40), (0, .nameAndType 41 12), (0, u "KEYWORD"), (0, .methodref 8 43), (0, .nameAndType 44 45), (0, u "isSymbol"), (0, u "(Ljava/lang/String;)Z"), (0, .methodref 8 47), (0, .nameAndType 48 45), (0, u "isKeyword"), (24, u "(Lcom/example/entitled/entitled/lang/Token$Kind;Ljava/lang/String;II)V"), (4, u "isOperator")] 38

def k11c0 : Code := { maxStack := 2, maxLocals := 5, code := prog_11_method_1_code, exceptionTable := #[], attributes := #[] }
def k11m0 : Method := { name := "<init>", desc := "(Lcom/example/entitled/entitled/lang/Token$Kind;Ljava/lang/String;II)V", sig := { parameters := [(.object "com/example/entitled/entitled/lang/Token$Kind"), (.object "java/lang/String"), .int, .int], returnType := none }, accessFlags := 0, code := some k11c0 }
def k11c1 : Code := { maxStack := 2, maxLocals := 3, code := prog_11_method_2_code, exceptionTable := #[], attributes := #[] }
def k11m1 : Method := { name := "is", desc := "(Lcom/example/entitled/entitled/lang/Token$Kind;Ljava/lang/String;)Z", sig := { parameters := [(.object "com/example/entitled/entitled/lang/Token$Kind"), (.object "java/lang/String")], returnType := some .boolean }, accessFlags := 0, code := some k11c1 }
def k11c2 : Code := { maxStack := 3, maxLocals := 2, code := prog_11_method_3_code, exceptionTable := #[], attributes := #[] }
def k11m2 : Method := { name := "isSymbol", desc := "(Ljava/lang/String;)Z", sig := { parameters := [(.object "java/lang/String")], returnType := some .boolean }, accessFlags := 0, code := some k11c2 }
def k11c3 : Code := { maxStack := 3, maxLocals := 2, code := prog_11_method_4_code, exceptionTable := #[], attributes := #[] }
def k11m3 : Method := { name := "isKeyword", desc := "(Ljava/lang/String;)Z", sig := { parameters := [(.object "java/lang/String")], returnType := some .boolean }, accessFlags := 0, code := some k11c3 }
def k11c4 : Code := { maxStack := 2, maxLocals := 2, code := prog_11_method_5_code, exceptionTable := #[], attributes := #[] }
def k11m4 : Method := { name := "isOperator", desc := "(Ljava/lang/String;)Z", sig := { parameters := [(.object "java/lang/String")], returnType := some .boolean }, accessFlags := 0, code := some k11c4 }
/-- com/example/entitled/entitled/lang/Token -/
def k11 : Class := { plain "com/example/entitled/entitled/lang/Token" (some 10) with
  accessFlags := 48
  interfaces := #[]
  cf := some (fileOf pool11 8 #[.nestMembers #[31]] #[{ accessFlags := 0, nameIndex := 5, descriptorIndex := 73, attributes := #[] }, { accessFlags := 0, nameIndex := 37, descriptorIndex := 38, attributes := #[] }, { accessFlags := 0, nameIndex := 44, descriptorIndex := 45, attributes := #[] }, { accessFlags := 0, nameIndex := 48, descriptorIndex := 45, attributes := #[] }, { accessFlags := 0, nameIndex := 78, descriptorIndex := 45, attributes := #[] }] 48 2 #[] #[{ accessFlags := 18, nameIndex := 11, descriptorIndex := 12, attributes := #[] }, { accessFlags := 18, nameIndex := 15, descriptorIndex := 16, attributes := #[] }, { accessFlags := 18, nameIndex := 19, descriptorIndex := 20, attributes := #[] }, { accessFlags := 18, nameIndex := 23, descriptorIndex := 20, attributes := #[] }])
  fields := #[{ name := "kind", type := (.object "com/example/entitled/entitled/lang/Token$Kind"), accessFlags := 18, slot := 0, constantValue := 0 }, { name := "text", type := (.object "java/lang/String"), accessFlags := 18, slot := 1, constantValue := 0 }, { name := "line", type := .int, accessFlags := 18, slot := 2, constantValue := 0 }, { name := "column", type := .int, accessFlags := 18, slot := 3, constantValue := 0 }]
  methods := #[k11m0, k11m1, k11m2, k11m3, k11m4]
  instanceTypes := #[(.object "com/example/entitled/entitled/lang/Token$Kind"), (.object "java/lang/String"), .int, .int]
  staticTypes := #[]
  resolved := Array.replicate 117 none
  statics := none }

def pool12 : Array CpInfo := pool [(6, .class_ 8), (1, u "java/lang/Object"), (0, u "<init>"), (0, u "()V"), (1, .class_ 14), (1, u "java/lang/StringUTF16"), (31, u "$assertionsDisabled"), (0, u "Z"), (13, u "HI_BYTE_SHIFT"), (0, u "I"), (2, u "LO_BYTE_SHIFT"), (49, .methodref 12 116), (0, .nameAndType 117 118), (0, u "compress"), (0, u "([CI[BII)I"), (3, u "([CII)[B"), (138, u "coderFromArrayLen"), (0, u "([BI)B"), (106, .class_ 371), (1, u "java/lang/StringUTF16$LinesSpliterator"), (58, u "MAX_LENGTH"), (196, .class_ 628), (0, u "java/lang/StringUTF16$CodePointsSpliterator"), (0, .class_ 630), (0, u "java/lang/StringUTF16$CharsSpliterator")] 4

def k12m0 : Method := { name := "<init>", desc := "()V", sig := { parameters := [], returnType := none }, accessFlags := 0, code := none }
def k12c1 : Code := { maxStack := 2, maxLocals := 2, code := jdk_52_method_15_code, exceptionTable := #[], attributes := #[] }
def k12m1 : Method := { name := "coderFromArrayLen", desc := "([BI)B", sig := { parameters := [(.array .byte), .int], returnType := some .byte }, accessFlags := 8, code := some k12c1 }
def k12c2 : Code := { maxStack := 5, maxLocals := 6, code := jdk_52_method_16_code, exceptionTable := #[], attributes := #[] }
def k12m2 : Method := { name := "compress", desc := "([CII)[B", sig := { parameters := [(.array .char), .int, .int], returnType := some (.array .byte) }, accessFlags := 9, code := some k12c2 }
def k12c3 : Code := { maxStack := 3, maxLocals := 7, code := jdk_52_method_21_code, exceptionTable := #[], attributes := #[] }
def k12m3 : Method := { name := "compress", desc := "([CI[BII)I", sig := { parameters := [(.array .char), .int, (.array .byte), .int, .int], returnType := some .int }, accessFlags := 9, code := some k12c3 }
/-- java/lang/StringUTF16 -/
def k12 : Class := { plain "java/lang/StringUTF16" (some 0) with
  accessFlags := 48
  interfaces := #[]
  cf := some (fileOf pool12 12 #[.nestMembers #[627, 629, 369]] #[{ accessFlags := 0, nameIndex := 9, descriptorIndex := 10, attributes := #[] }, { accessFlags := 8, nameIndex := 261, descriptorIndex := 262, attributes := #[] }, { accessFlags := 9, nameIndex := 117, descriptorIndex := 122, attributes := #[] }, { accessFlags := 9, nameIndex := 117, descriptorIndex := 118, attributes := #[] }] 48 6 #[] #[{ accessFlags := 26, nameIndex := 61, descriptorIndex := 62, attributes := #[] }, { accessFlags := 26, nameIndex := 65, descriptorIndex := 62, attributes := #[] }, { accessFlags := 24, nameIndex := 430, descriptorIndex := 62, attributes := #[] }, { accessFlags := 4120, nameIndex := 46, descriptorIndex := 47, attributes := #[] }])
  fields := #[{ name := "HI_BYTE_SHIFT", type := .int, accessFlags := 26, slot := 0, constantValue := 0 }, { name := "LO_BYTE_SHIFT", type := .int, accessFlags := 26, slot := 1, constantValue := 0 }, { name := "MAX_LENGTH", type := .int, accessFlags := 24, slot := 2, constantValue := 0 }, { name := "$assertionsDisabled", type := .boolean, accessFlags := 4120, slot := 3, constantValue := 0 }]
  methods := #[k12m0, k12m1, k12m2, k12m3]
  instanceTypes := #[]
  staticTypes := #[.int, .int, .int, .boolean]
  resolved := Array.replicate 635 none
  statics := none }

def pool13 : Array CpInfo := pool [(4, .class_ 6), (1, u "java/lang/Object"), (0, u "<init>"), (0, u "()V"), (5, .class_ 16), (1, u "java/lang/StringLatin1"), (104, u "$assertionsDisabled"), (0, u "Z"), (98, .class_ 223), (1, u "java/lang/StringLatin1$LinesSpliterator"), (57, u "equals"), (0, u "([B[B)Z"), (107, .class_ 391), (0, u "java/lang/StringLatin1$CharsSpliterator")] 3

def k13m0 : Method := { name := "<init>", desc := "()V", sig := { parameters := [], returnType := none }, accessFlags := 0, code := none }
def k13c1 : Code := { maxStack := 3, maxLocals := 3, code := jdk_43_method_13_code, exceptionTable := #[], attributes := #[] }
def k13m1 : Method := { name := "equals", desc := "([B[B)Z", sig := { parameters := [(.array .byte), (.array .byte)], returnType := some .boolean }, accessFlags := 9, code := some k13c1 }
/-- java/lang/StringLatin1 -/
def k13 : Class := { plain "java/lang/StringLatin1" (some 0) with
  accessFlags := 48
  interfaces := #[]
  cf := some (fileOf pool13 14 #[.nestMembers #[390, 221]] #[{ accessFlags := 0, nameIndex := 7, descriptorIndex := 8, attributes := #[] }, { accessFlags := 9, nameIndex := 281, descriptorIndex := 282, attributes := #[] }] 48 4 #[] #[{ accessFlags := 4120, nameIndex := 121, descriptorIndex := 122, attributes := #[] }])
  fields := #[{ name := "$assertionsDisabled", type := .boolean, accessFlags := 4120, slot := 0, constantValue := 0 }]
  methods := #[k13m0, k13m1]
  instanceTypes := #[]
  staticTypes := #[.boolean]
  resolved := Array.replicate 395 none
  statics := none }

def pool14 : Array CpInfo := pool [(2, .class_ 4), (1, u "java/lang/Object"), (0, u "<init>"), (0, u "()V"), (17, .class_ 26), (1, u "jdk/internal/util/Preconditions"), (28, .class_ 56), (0, u "jdk/internal/util/Preconditions$4"), (57, .class_ 115), (0, u "jdk/internal/util/Preconditions$1"), (7, u "SIOOBE_FORMATTER"), (0, u "Ljava/util/function/BiFunction;"), (0, .class_ 126), (0, u "jdk/internal/util/Preconditions$2"), (3, u "AIOOBE_FORMATTER"), (0, .class_ 132), (0, u "jdk/internal/util/Preconditions$3"), (3, u "IOOBE_FORMATTER")] 57

def k14m0 : Method := { name := "<init>", desc := "()V", sig := { parameters := [], returnType := none }, accessFlags := 1, code := none }
/-- jdk/internal/util/Preconditions -/
def k14 : Class := { plain "jdk/internal/util/Preconditions" (some 0) with
  accessFlags := 33
  interfaces := #[]
  cf := some (fileOf pool14 24 #[.nestMembers #[55, 131, 125, 114]] #[{ accessFlags := 1, nameIndex := 5, descriptorIndex := 6, attributes := #[] }] 33 2 #[] #[{ accessFlags := 25, nameIndex := 123, descriptorIndex := 124, attributes := #[] }, { accessFlags := 25, nameIndex := 130, descriptorIndex := 124, attributes := #[] }, { accessFlags := 25, nameIndex := 136, descriptorIndex := 124, attributes := #[] }])
  fields := #[{ name := "SIOOBE_FORMATTER", type := (.object "java/util/function/BiFunction"), accessFlags := 25, slot := 0, constantValue := 0 }, { name := "AIOOBE_FORMATTER", type := (.object "java/util/function/BiFunction"), accessFlags := 25, slot := 1, constantValue := 0 }, { name := "IOOBE_FORMATTER", type := (.object "java/util/function/BiFunction"), accessFlags := 25, slot := 2, constantValue := 0 }]
  methods := #[k14m0]
  instanceTypes := #[]
  staticTypes := #[(.object "java/util/function/BiFunction"), (.object "java/util/function/BiFunction"), (.object "java/util/function/BiFunction")]
  resolved := Array.replicate 194 none
  statics := some 2 }

def pool15 : Array CpInfo := pool [(9, u "<init>"), (6, .class_ 18), (1, u "java/lang/Object"), (0, u "()V"), (1, .class_ 23), (1, u "jdk/internal/util/ArraysSupport"), (0, u "LOG2_ARRAY_LONG_INDEX_SCALE"), (0, u "I"), (2, u "U"), (0, u "Ljdk/internal/misc/Unsafe;"), (8, u "BIG_ENDIAN"), (0, u "Z"), (8, u "LOG2_BYTE_BIT_SIZE"), (4, u "LOG2_ARRAY_INT_INDEX_SCALE"), (54, u "JLA"), (0, u "Ljdk/internal/access/JavaLangAccess;"), (11, u "LOG2_ARRAY_BOOLEAN_INDEX_SCALE"), (9, u "LOG2_ARRAY_BYTE_INDEX_SCALE"), (5, u "LOG2_ARRAY_CHAR_INDEX_SCALE"), (5, u "LOG2_ARRAY_SHORT_INDEX_SCALE"), (18, u "LOG2_ARRAY_FLOAT_INDEX_SCALE"), (24, u "LOG2_ARRAY_DOUBLE_INDEX_SCALE"), (89, u "T_BOOLEAN"), (2, u "T_CHAR"), (1, u "T_FLOAT"), (1, u "T_DOUBLE"), (1, u "T_BYTE"), (1, u "T_SHORT"), (1, u "T_INT"), (1, u "T_LONG"), (1, u "SOFT_MAX_ARRAY_LENGTH")] 83

def k15m0 : Method := { name := "<init>", desc := "()V", sig := { parameters := [], returnType := none }, accessFlags := 2, code := none }
/-- jdk/internal/util/ArraysSupport -/
def k15 : Class := { plain "jdk/internal/util/ArraysSupport" (some 0) with
  accessFlags := 33
  interfaces := #[]
  cf := some (fileOf pool15 21 #[] #[{ accessFlags := 2, nameIndex := 9, descriptorIndex := 19, attributes := #[] }] 33 16 #[] #[{ accessFlags := 24, nameIndex := 28, descriptorIndex := 29, attributes := #[] }, { accessFlags := 26, nameIndex := 38, descriptorIndex := 39, attributes := #[] }, { accessFlags := 25, nameIndex := 121, descriptorIndex := 25, attributes := #[] }, { accessFlags := 25, nameIndex := 131, descriptorIndex := 25, attributes := #[] }, { accessFlags := 25, nameIndex := 137, descriptorIndex := 25, attributes := #[] }, { accessFlags := 25, nameIndex := 143, descriptorIndex := 25, attributes := #[] }, { accessFlags := 25, nameIndex := 53, descriptorIndex := 25, attributes := #[] }, { accessFlags := 25, nameIndex := 24, descriptorIndex := 25, attributes := #[] }, { accessFlags := 25, nameIndex := 162, descriptorIndex := 25, attributes := #[] }, { accessFlags := 25, nameIndex := 187, descriptorIndex := 25, attributes := #[] }, { accessFlags := 26, nameIndex := 48, descriptorIndex := 25, attributes := #[] }, { accessFlags := 25, nameIndex := 277, descriptorIndex := 25, attributes := #[] }, { accessFlags := 25, nameIndex := 280, descriptorIndex := 25, attributes := #[] }, { accessFlags := 25, nameIndex := 282, descriptorIndex := 25, attributes := #[] }, { accessFlags := 25, nameIndex := 284, descriptorIndex := 25, attributes := #[] }, { accessFlags := 25, nameIndex := 286, descriptorIndex := 25, attributes := #[] }, { accessFlags := 25, nameIndex := 288, descriptorIndex := 25, attributes := #[] }, { accessFlags := 25, nameIndex := 290, descriptorIndex := 25, attributes := #[] }, { accessFlags := 25, nameIndex := 292, descriptorIndex := 25, attributes := #[] }, { accessFlags := 26, nameIndex := 108, descriptorIndex := 109, attributes := #[] }, { accessFlags := 25, nameIndex := 294, descriptorIndex := 25, attributes := #[] }])
  fields := #[{ name := "U", type := (.object "jdk/internal/misc/Unsafe"), accessFlags := 24, slot := 0, constantValue := 0 }, { name := "BIG_ENDIAN", type := .boolean, accessFlags := 26, slot := 1, constantValue := 0 }, { name := "LOG2_ARRAY_BOOLEAN_INDEX_SCALE", type := .int, accessFlags := 25, slot := 2, constantValue := 0 }, { name := "LOG2_ARRAY_BYTE_INDEX_SCALE", type := .int, accessFlags := 25, slot := 3, constantValue := 0 }, { name := "LOG2_ARRAY_CHAR_INDEX_SCALE", type := .int, accessFlags := 25, slot := 4, constantValue := 0 }, { name := "LOG2_ARRAY_SHORT_INDEX_SCALE", type := .int, accessFlags := 25, slot := 5, constantValue := 0 }, { name := "LOG2_ARRAY_INT_INDEX_SCALE", type := .int, accessFlags := 25, slot := 6, constantValue := 0 }, { name := "LOG2_ARRAY_LONG_INDEX_SCALE", type := .int, accessFlags := 25, slot := 7, constantValue := 0 }, { name := "LOG2_ARRAY_FLOAT_INDEX_SCALE", type := .int, accessFlags := 25, slot := 8, constantValue := 0 }, { name := "LOG2_ARRAY_DOUBLE_INDEX_SCALE", type := .int, accessFlags := 25, slot := 9, constantValue := 0 }, { name := "LOG2_BYTE_BIT_SIZE", type := .int, accessFlags := 26, slot := 10, constantValue := 0 }, { name := "T_BOOLEAN", type := .int, accessFlags := 25, slot := 11, constantValue := 0 }, { name := "T_CHAR", type := .int, accessFlags := 25, slot := 12, constantValue := 0 }, { name := "T_FLOAT", type := .int, accessFlags := 25, slot := 13, constantValue := 0 }, { name := "T_DOUBLE", type := .int, accessFlags := 25, slot := 14, constantValue := 0 }, { name := "T_BYTE", type := .int, accessFlags := 25, slot := 15, constantValue := 0 }, { name := "T_SHORT", type := .int, accessFlags := 25, slot := 16, constantValue := 0 }, { name := "T_INT", type := .int, accessFlags := 25, slot := 17, constantValue := 0 }, { name := "T_LONG", type := .int, accessFlags := 25, slot := 18, constantValue := 0 }, { name := "JLA", type := (.object "jdk/internal/access/JavaLangAccess"), accessFlags := 26, slot := 19, constantValue := 0 }, { name := "SOFT_MAX_ARRAY_LENGTH", type := .int, accessFlags := 25, slot := 20, constantValue := 0 }]
  methods := #[k15m0]
  instanceTypes := #[]
  staticTypes := #[(.object "jdk/internal/misc/Unsafe"), .boolean, .int, .int, .int, .int, .int, .int, .int, .int, .int, .int, .int, .int, .int, .int, .int, .int, .int, (.object "jdk/internal/access/JavaLangAccess"), .int]
  resolved := Array.replicate 378 none
  statics := none }

def pool16 : Array CpInfo := pool [(1, u "java/lang/Cloneable"), (0, .class_ 1), (0, u "java/lang/Object"), (0, .class_ 3)] 3

/-- java/lang/Cloneable -/
def k16 : Class := { plain "java/lang/Cloneable" (some 0) with
  accessFlags := 1537
  interfaces := #[]
  cf := some (fileOf pool16 2 #[] #[] 1537 4 #[] #[])
  fields := #[]
  methods := #[]
  instanceTypes := #[]
  staticTypes := #[]
  resolved := Array.replicate 8 none
  statics := none }

/-- the primitive byte -/
def k17 : Class := { plain "byte" none with kind := .primitive 'B', accessFlags := 0x411 }
/-- [B -/
def k18 : Class := { plain "[B" (some 0) with kind := .array 17 .byte, interfaces := #[16, 4], accessFlags := 1041 }

/-- the primitive char -/
def k19 : Class := { plain "char" none with kind := .primitive 'C', accessFlags := 0x411 }
/-- [C -/
def k20 : Class := { plain "[C" (some 0) with kind := .array 19 .char, interfaces := #[16, 4], accessFlags := 1041 }

/-- the primitive int -/
def k21 : Class := { plain "int" none with kind := .primitive 'I', accessFlags := 0x411 }
/-- [I -/
def k22 : Class := { plain "[I" (some 0) with kind := .array 21 .int, interfaces := #[16, 4], accessFlags := 1041 }

def heap : Heap := #[{ cls := 6, slots := #[.ref 3, .ref 4, .ref 5, .ref 6, .ref 7, .ref 8, .null], vm := .statics 6 },
  { cls := 9, slots := #[.long 0, .int 1, .null, .int 0, .null, .int 0, .int 0], vm := .statics 9 },
  { cls := 14, slots := #[.null, .null, .null], vm := .statics 14 },
  { cls := 6, slots := #[.null, .int 0, .int 0], vm := .none },
  { cls := 6, slots := #[.null, .int 1, .int 0], vm := .none },
  { cls := 6, slots := #[.null, .int 2, .int 0], vm := .none },
  { cls := 6, slots := #[.null, .int 3, .int 0], vm := .none },
  { cls := 6, slots := #[.null, .int 4, .int 0], vm := .none },
  { cls := 6, slots := #[.null, .int 5, .int 0], vm := .none }]
def classes : Array Class := #[k0, k1, k2, k3, k4, k5, k6, k7, k8, k9, k10, k11, k12, k13, k14, k15, k16, k17, k18, k19, k20, k21, k22]
def interned : List (Array UInt16 × Addr) := []
def slotsUsed : Nat := 35
def theMethod : MethodId := ⟨1, 3⟩
def args0 : Array Value := #[.int 3, .int 4, .int 5, .int 6, .int 7, .int 8]
def aboutOver (below : List Frame) : State where
  vm := { classes := classes, interned := interned.toArray }
  heap := heap
  slotsUsed := slotsUsed
  threads := #[{ frames := .invoking theMethod args0 :: below }]
def below0 : List Frame := [.native { method := ⟨0, 0⟩, args := #[] }]
def about1 : State := aboutOver below0
def p0 : Program := .bare "" "" ""
def e0 : Env := launch0.env 0 0 0
theorem w_frames : about1.frames = Frame.invoking theMethod args0 :: below0 := rfl
set_option maxRecDepth 65536 in
theorem w_args : argsFit about1.vm theMethod args0 = true := by decide +kernel
set_option maxRecDepth 65536 in
theorem w_heap : heapFits about1 = true := by decide +kernel
set_option maxRecDepth 65536 in
theorem w_runnable : about1.curStatus? = some .runnable := by decide +kernel
set_option maxRecDepth 65536 in
theorem w_alone : about1.alone = true := by decide +kernel
set_option maxRecDepth 65536 in
theorem w_named : about1.methodNamed? x = some theMethod := by decide +kernel
set_option maxRecDepth 65536 in
theorem w_hears : about1.hears theMethod below0 = true := by decide +kernel
set_option maxRecDepth 65536 in
theorem w_ripe : about1.ripe theMethod args0 below0 = true := by decide +kernel
theorem w_running : about1.status = .running := rfl
set_option maxRecDepth 65536 in
theorem w_room : about1.hasRoom e0.platform room_1 = true :=
  launch0.hasRoom_least _ room_1 (by decide +kernel) (by decide +kernel) (by decide +kernel) (by decide +kernel) (by decide +kernel) (by decide +kernel)
theorem allAtoms_all (ts : List Jvm.Cond) (a : Array Jvm.Value) (st : Jvm.State) : (allAtoms ts).before a st = ts.all (fun c => c.before a st) := by
  induction ts with
  | nil => rfl
  | cons c t ih =>
    show (Jvm.Cond.and c (allAtoms t)).before a st = _
    rw [Jvm.Cond.before_and, ih, List.all_cons]
def words1 : List Jvm.Cond := Jvm.Cond.code x code maxLocals ret :: tables_1
/-- a 'code' word, met by the world's own term for the bytes: nothing is compared byte by byte -/
theorem code_word {y : MethodName} {bytes : ByteArray} {mx : Nat} {rt : Option FieldType} {a : Array Value} {s : State} {m : MethodId} {meth : Method} {c : Code} (h1 : s.methodNamed? y = some m) (h2 : s.vm.method? m = some meth) (h3 : meth.code = some c) (h4 : c.code = bytes)
    (h5 : (c.maxLocals == mx && c.exceptionTable.isEmpty && decide (c.maxStack ≤ mostOperands) && decide (meth.sig.returnType = rt) && !meth.locks && decide (parseMethodDescriptor y.desc = some meth.sig)) = true) : (Jvm.Cond.code y bytes mx rt).before a s = true := by
  simp only [Bool.and_eq_true, beq_iff_eq, Bool.not_eq_true', decide_eq_true_eq] at h5
  obtain ⟨⟨⟨⟨⟨g1, g2⟩, g3⟩, g4⟩, g5⟩, g6⟩ := h5
  simp [Cond.before, Cond.holds, Cond.value, h1, h2, h3, h4, g1, g2, g3, g4, g5, g6]
def isCode : Jvm.Cond → Bool
  | .code _ _ _ _ => true
  | _ => false
theorem all_split {L : List Jvm.Cond} {P : Jvm.Cond → Bool} (h1 : L.all (fun c => isCode c || P c) = true) (h2 : ∀ c ∈ L.filter isCode, P c = true) : L.all P = true := by
  refine List.all_eq_true.mpr fun c hc => ?_
  have h := List.all_eq_true.mp h1 c hc
  rcases Bool.eq_false_or_eq_true (isCode c) with hi | hi
  · exact h2 c (List.mem_filter.mpr ⟨hc, hi⟩)
  · simpa [hi] using h
set_option maxRecDepth 65536 in
theorem w_c0 : (Jvm.Cond.code x code maxLocals ret).before args0 about1 = true := code_word (m := ⟨1, 3⟩) (meth := k1m3) (c := k1c3) (by decide +kernel) rfl rfl rfl (by decide +kernel)
set_option maxRecDepth 65536 in
theorem w_c1 : (Jvm.Cond.code ({ cls := "com/example/entitled/entitled/lang/TokenIsOperatorPinLaw", name := "kindOf", desc := "(I)Lcom/example/entitled/entitled/lang/Token$Kind;" } : Jvm.MethodName) method_3_code (1 : Nat) (Option.some (Jvm.ClassFile.FieldType.object "com/example/entitled/entitled/lang/Token$Kind"))).before args0 about1 = true := code_word (m := ⟨1, 2⟩) (meth := k1m2) (c := k1c2) (by decide +kernel) rfl rfl rfl (by decide +kernel)
set_option maxRecDepth 65536 in
theorem w_c2 : (Jvm.Cond.code ({ cls := "com/example/entitled/entitled/lang/TokenIsOperatorPinLaw", name := "mk", desc := "(ICC)Ljava/lang/String;" } : Jvm.MethodName) method_2_code (3 : Nat) (Option.some (Jvm.ClassFile.FieldType.object "java/lang/String"))).before args0 about1 = true := code_word (m := ⟨1, 1⟩) (meth := k1m1) (c := k1c1) (by decide +kernel) rfl rfl rfl (by decide +kernel)
set_option maxRecDepth 65536 in
theorem w_c3 : (Jvm.Cond.code ({ cls := "java/lang/String", name := "<init>", desc := "([C)V" } : Jvm.MethodName) jdk_42_method_3_code (2 : Nat) (Option.none : Option Jvm.ClassFile.FieldType)).before args0 about1 = true := code_word (m := ⟨9, 1⟩) (meth := k9m1) (c := k9c1) (by decide +kernel) rfl rfl rfl (by decide +kernel)
set_option maxRecDepth 65536 in
theorem w_c4 : (Jvm.Cond.code ({ cls := "java/lang/String", name := "<init>", desc := "([CIILjava/lang/Void;)V" } : Jvm.MethodName) jdk_42_method_149_code (6 : Nat) (Option.none : Option Jvm.ClassFile.FieldType)).before args0 about1 = true := code_word (m := ⟨9, 3⟩) (meth := k9m3) (c := k9c3) (by decide +kernel) rfl rfl rfl (by decide +kernel)
set_option maxRecDepth 65536 in
theorem w_c5 : (Jvm.Cond.code ({ cls := "java/lang/Object", name := "<init>", desc := "()V" } : Jvm.MethodName) object_method_1_code (1 : Nat) (Option.none : Option Jvm.ClassFile.FieldType)).before args0 about1 = true := code_word (m := ⟨0, 0⟩) (meth := k0m0) (c := k0c0) (by decide +kernel) rfl rfl rfl (by decide +kernel)
set_option maxRecDepth 65536 in
theorem w_c6 : (Jvm.Cond.code ({ cls := "com/example/entitled/entitled/lang/Token", name := "<init>", desc := "(Lcom/example/entitled/entitled/lang/Token$Kind;Ljava/lang/String;II)V" } : Jvm.MethodName) prog_11_method_1_code (5 : Nat) (Option.none : Option Jvm.ClassFile.FieldType)).before args0 about1 = true := code_word (m := ⟨11, 0⟩) (meth := k11m0) (c := k11c0) (by decide +kernel) rfl rfl rfl (by decide +kernel)
set_option maxRecDepth 65536 in
theorem w_c7 : (Jvm.Cond.code ({ cls := "java/lang/Record", name := "<init>", desc := "()V" } : Jvm.MethodName) jdk_30_method_1_code (1 : Nat) (Option.none : Option Jvm.ClassFile.FieldType)).before args0 about1 = true := code_word (m := ⟨10, 0⟩) (meth := k10m0) (c := k10c0) (by decide +kernel) rfl rfl rfl (by decide +kernel)
set_option maxRecDepth 65536 in
theorem w_c8 : (Jvm.Cond.code ({ cls := "com/example/entitled/entitled/lang/Token", name := "isOperator", desc := "(Ljava/lang/String;)Z" } : Jvm.MethodName) prog_11_method_5_code (2 : Nat) (Option.some Jvm.ClassFile.FieldType.boolean)).before args0 about1 = true := code_word (m := ⟨11, 4⟩) (meth := k11m4) (c := k11c4) (by decide +kernel) rfl rfl rfl (by decide +kernel)
set_option maxRecDepth 65536 in
theorem w_c9 : (Jvm.Cond.code ({ cls := "com/example/entitled/entitled/lang/Token", name := "isSymbol", desc := "(Ljava/lang/String;)Z" } : Jvm.MethodName) prog_11_method_3_code (2 : Nat) (Option.some Jvm.ClassFile.FieldType.boolean)).before args0 about1 = true := code_word (m := ⟨11, 2⟩) (meth := k11m2) (c := k11c2) (by decide +kernel) rfl rfl rfl (by decide +kernel)
set_option maxRecDepth 65536 in
theorem w_c10 : (Jvm.Cond.code ({ cls := "com/example/entitled/entitled/lang/Token", name := "is", desc := "(Lcom/example/entitled/entitled/lang/Token$Kind;Ljava/lang/String;)Z" } : Jvm.MethodName) prog_11_method_2_code (3 : Nat) (Option.some Jvm.ClassFile.FieldType.boolean)).before args0 about1 = true := code_word (m := ⟨11, 1⟩) (meth := k11m1) (c := k11c1) (by decide +kernel) rfl rfl rfl (by decide +kernel)
set_option maxRecDepth 65536 in
theorem w_c11 : (Jvm.Cond.code ({ cls := "com/example/entitled/entitled/lang/Token", name := "isKeyword", desc := "(Ljava/lang/String;)Z" } : Jvm.MethodName) prog_11_method_4_code (2 : Nat) (Option.some Jvm.ClassFile.FieldType.boolean)).before args0 about1 = true := code_word (m := ⟨11, 3⟩) (meth := k11m3) (c := k11c3) (by decide +kernel) rfl rfl rfl (by decide +kernel)
set_option maxRecDepth 65536 in
theorem w_c12 : (Jvm.Cond.code ({ cls := "java/lang/StringUTF16", name := "compress", desc := "([CII)[B" } : Jvm.MethodName) jdk_52_method_16_code (6 : Nat) (Option.some (Jvm.ClassFile.FieldType.array Jvm.ClassFile.FieldType.byte))).before args0 about1 = true := code_word (m := ⟨12, 2⟩) (meth := k12m2) (c := k12c2) (by decide +kernel) rfl rfl rfl (by decide +kernel)
set_option maxRecDepth 65536 in
theorem w_c13 : (Jvm.Cond.code ({ cls := "java/lang/StringUTF16", name := "compress", desc := "([CI[BII)I" } : Jvm.MethodName) jdk_52_method_21_code (7 : Nat) (Option.some Jvm.ClassFile.FieldType.int)).before args0 about1 = true := code_word (m := ⟨12, 3⟩) (meth := k12m3) (c := k12c3) (by decide +kernel) rfl rfl rfl (by decide +kernel)
set_option maxRecDepth 65536 in
theorem w_c14 : (Jvm.Cond.code ({ cls := "java/lang/StringUTF16", name := "coderFromArrayLen", desc := "([BI)B" } : Jvm.MethodName) jdk_52_method_15_code (2 : Nat) (Option.some Jvm.ClassFile.FieldType.byte)).before args0 about1 = true := code_word (m := ⟨12, 1⟩) (meth := k12m1) (c := k12c1) (by decide +kernel) rfl rfl rfl (by decide +kernel)
set_option maxRecDepth 65536 in
theorem w_c15 : (Jvm.Cond.code ({ cls := "java/lang/String", name := "equals", desc := "(Ljava/lang/Object;)Z" } : Jvm.MethodName) jdk_42_method_66_code (3 : Nat) (Option.some Jvm.ClassFile.FieldType.boolean)).before args0 about1 = true := code_word (m := ⟨9, 2⟩) (meth := k9m2) (c := k9c2) (by decide +kernel) rfl rfl rfl (by decide +kernel)
set_option maxRecDepth 65536 in
theorem w_c16 : (Jvm.Cond.code ({ cls := "java/lang/StringLatin1", name := "equals", desc := "([B[B)Z" } : Jvm.MethodName) jdk_43_method_13_code (3 : Nat) (Option.some Jvm.ClassFile.FieldType.boolean)).before args0 about1 = true := code_word (m := ⟨13, 1⟩) (meth := k13m1) (c := k13c1) (by decide +kernel) rfl rfl rfl (by decide +kernel)
def codes1 : List Jvm.Cond := [Jvm.Cond.code x code maxLocals ret, Jvm.Cond.code ({ cls := "com/example/entitled/entitled/lang/TokenIsOperatorPinLaw", name := "kindOf", desc := "(I)Lcom/example/entitled/entitled/lang/Token$Kind;" } : Jvm.MethodName) method_3_code (1 : Nat) (Option.some (Jvm.ClassFile.FieldType.object "com/example/entitled/entitled/lang/Token$Kind")), Jvm.Cond.code ({ cls := "com/example/entitled/entitled/lang/TokenIsOperatorPinLaw", name := "mk", desc := "(ICC)Ljava/lang/String;" } : Jvm.MethodName) method_2_code (3 : Nat) (Option.some (Jvm.ClassFile.FieldType.object "java/lang/String")), Jvm.Cond.code ({ cls := "java/lang/String", name := "<init>", desc := "([C)V" } : Jvm.MethodName) jdk_42_method_3_code (2 : Nat) (Option.none : Option Jvm.ClassFile.FieldType), Jvm.Cond.code ({ cls := "java/lang/String", name := "<init>", desc := "([CIILjava/lang/Void;)V" } : Jvm.MethodName) jdk_42_method_149_code (6 : Nat) (Option.none : Option Jvm.ClassFile.FieldType), Jvm.Cond.code ({ cls := "java/lang/Object", name := "<init>", desc := "()V" } : Jvm.MethodName) object_method_1_code (1 : Nat) (Option.none : Option Jvm.ClassFile.FieldType), Jvm.Cond.code ({ cls := "com/example/entitled/entitled/lang/Token", name := "<init>", desc := "(Lcom/example/entitled/entitled/lang/Token$Kind;Ljava/lang/String;II)V" } : Jvm.MethodName) prog_11_method_1_code (5 : Nat) (Option.none : Option Jvm.ClassFile.FieldType), Jvm.Cond.code ({ cls := "java/lang/Record", name := "<init>", desc := "()V" } : Jvm.MethodName) jdk_30_method_1_code (1 : Nat) (Option.none : Option Jvm.ClassFile.FieldType), Jvm.Cond.code ({ cls := "com/example/entitled/entitled/lang/Token", name := "isOperator", desc := "(Ljava/lang/String;)Z" } : Jvm.MethodName) prog_11_method_5_code (2 : Nat) (Option.some Jvm.ClassFile.FieldType.boolean), Jvm.Cond.code ({ cls := "com/example/entitled/entitled/lang/Token", name := "isSymbol", desc := "(Ljava/lang/String;)Z" } : Jvm.MethodName) prog_11_method_3_code (2 : Nat) (Option.some Jvm.ClassFile.FieldType.boolean), Jvm.Cond.code ({ cls := "com/example/entitled/entitled/lang/Token", name := "is", desc := "(Lcom/example/entitled/entitled/lang/Token$Kind;Ljava/lang/String;)Z" } : Jvm.MethodName) prog_11_method_2_code (3 : Nat) (Option.some Jvm.ClassFile.FieldType.boolean), Jvm.Cond.code ({ cls := "com/example/entitled/entitled/lang/Token", name := "isKeyword", desc := "(Ljava/lang/String;)Z" } : Jvm.MethodName) prog_11_method_4_code (2 : Nat) (Option.some Jvm.ClassFile.FieldType.boolean), Jvm.Cond.code ({ cls := "java/lang/StringUTF16", name := "compress", desc := "([CII)[B" } : Jvm.MethodName) jdk_52_method_16_code (6 : Nat) (Option.some (Jvm.ClassFile.FieldType.array Jvm.ClassFile.FieldType.byte)), Jvm.Cond.code ({ cls := "java/lang/StringUTF16", name := "compress", desc := "([CI[BII)I" } : Jvm.MethodName) jdk_52_method_21_code (7 : Nat) (Option.some Jvm.ClassFile.FieldType.int), Jvm.Cond.code ({ cls := "java/lang/StringUTF16", name := "coderFromArrayLen", desc := "([BI)B" } : Jvm.MethodName) jdk_52_method_15_code (2 : Nat) (Option.some Jvm.ClassFile.FieldType.byte), Jvm.Cond.code ({ cls := "java/lang/String", name := "equals", desc := "(Ljava/lang/Object;)Z" } : Jvm.MethodName) jdk_42_method_66_code (3 : Nat) (Option.some Jvm.ClassFile.FieldType.boolean), Jvm.Cond.code ({ cls := "java/lang/StringLatin1", name := "equals", desc := "([B[B)Z" } : Jvm.MethodName) jdk_43_method_13_code (3 : Nat) (Option.some Jvm.ClassFile.FieldType.boolean)]
set_option maxRecDepth 65536 in
theorem codes_eq : words1.filter isCode = codes1 := rfl
theorem w_codes : ∀ c ∈ words1.filter isCode, c.before args0 about1 = true := by
  rw [codes_eq]
  intro c hc
  simp only [codes1, List.mem_cons, List.not_mem_nil, or_false] at hc
  rcases hc with rfl | rfl | rfl | rfl | rfl | rfl | rfl | rfl | rfl | rfl | rfl | rfl | rfl | rfl | rfl | rfl | rfl
  · exact w_c0
  · exact w_c1
  · exact w_c2
  · exact w_c3
  · exact w_c4
  · exact w_c5
  · exact w_c6
  · exact w_c7
  · exact w_c8
  · exact w_c9
  · exact w_c10
  · exact w_c11
  · exact w_c12
  · exact w_c13
  · exact w_c14
  · exact w_c15
  · exact w_c16
set_option maxRecDepth 65536 in
theorem w_t1 : (words1.take 24).all (fun c => isCode c || c.before args0 about1) = true := by decide +kernel
set_option maxRecDepth 65536 in
theorem w_t2 : ((words1.drop 24).take 24).all (fun c => isCode c || c.before args0 about1) = true := by decide +kernel
set_option maxRecDepth 65536 in
theorem w_t3 : (((words1.drop 24).drop 24).take 24).all (fun c => isCode c || c.before args0 about1) = true := by decide +kernel
set_option maxRecDepth 65536 in
theorem w_t4 : ((((words1.drop 24).drop 24).drop 24).take 24).all (fun c => isCode c || c.before args0 about1) = true := by decide +kernel
set_option maxRecDepth 65536 in
theorem w_t5 : ((((words1.drop 24).drop 24).drop 24).drop 24).all (fun c => isCode c || c.before args0 about1) = true := by decide +kernel
theorem w_tables : (allAtoms (Jvm.Cond.code x code maxLocals ret :: tables_1)).before args0 about1 = true := by
  rw [allAtoms_all]
  show words1.all (fun c => c.before args0 about1) = true
  refine all_split ?_ w_codes
  rw [← List.take_append_drop 24 words1, List.all_append, w_t1, ← List.take_append_drop 24 (words1.drop 24), List.all_append, w_t2, ← List.take_append_drop 24 ((words1.drop 24).drop 24), List.all_append, w_t3, ← List.take_append_drop 24 (((words1.drop 24).drop 24).drop 24), List.all_append, w_t4, w_t5]
  rfl
set_option maxRecDepth 65536 in
theorem w_rest : rest_1_c.before args0 about1 = true := by decide +kernel
set_option maxRecDepth 65536 in
theorem w_case : (Jvm.Cond.and given_1 narrow_1).before args0 about1 = true := by decide +kernel
set_option maxRecDepth 65536 in
theorem w_consts : constsHeld consts_1 about1 := Jvm.Lit.constsHeldB_iff.mp (by decide +kernel)
theorem w_applies : (headSpec (Jvm.Cond.code x code maxLocals ret :: tables_1) room_1).applies x e0.platform about1 = true :=
  (Spec.applies_iff w_frames).mpr ⟨w_running, w_runnable, w_alone, w_named, w_hears, w_ripe, w_room, w_tables⟩
theorem atStart : AtStart classFile x code maxLocals ret World_1 tables_1 room_1 Calls_1 rest_1 Pre_1 launch0 p0 e0 about1 theMethod args0 below0 :=
  ⟨lists_1, trivial, launch0.admits_env _ _ _, launch0.least_env, fairChoices_fair.cas, fairChoices_fair.clock, w_frames, w_args, w_heap, w_applies, ⟨w_consts, trivial⟩, w_rest, w_case⟩
end start1
theorem witness_1 : WitnessClaimed_1 := ⟨start1.p0, start1.e0, start1.about1, start1.theMethod, start1.args0, start1.below0, start1.atStart⟩
end Jvm.Pilot.@@N@@
