import JvmDerived
import JvmDerived.Pilot.@@N@@Statement
import JvmDerived.Pilot.@@N@@Code
set_option linter.unusedVariables false
set_option linter.unusedSimpArgs false
namespace Jvm.RoadKit
open Sem ClassFile Op Lib Jvm.Stand Jvm.Free Jvm.LawKit
section New
variable {p : Program} {l : Launch} {e : Env} {R : Room} {s : State} {m : MethodId} {args : Array Value} {below : List Frame} {meth : Method} {c : Code} {T : State} {locs : List Loc} {cells slots : Nat}
theorem retI (X : Stand p l e R s m args below meth c T locs cells slots) (hx : p.tables.exec = Jvm.exec) {pc : Nat} {Ls : Array Slot} {z : Int32} {rest : List Value} (hret : meth.sig.returnType = some .int) (hd : decode c.code pc = .ok (.ireturn, 1)) {fs : List Frame}
    (hl : ∀ (f : JFrame) (acts : List Action), f.method = m → f.locked = none → f.entered = [] → (doReturn e (T.setTop f) acts (some (.int z))).1 = T.setFrames fs) : Steps p.tables e below (T.setTop (mkF m pc Ls (.int z :: rest))) (T.setFrames fs) := by
  have hm' : T.vm.method? m = some meth := X.method'
  have hn : narrow .int (.int z) = .int z := rfl
  show Steps p.tables e below (T.setTop { method := m, pc := pc, locals := Ls, stack := _ :: rest, locked := none }) _
  jvm_step X.here [X.here.top, hx, hd, hm', hret, hn]
  first | (intro acts; rw [hl _ acts rfl rfl rfl]) | rw [hl _ _ rfl rfl rfl]
  exact Steps.refl _
end New
end Jvm.RoadKit
namespace Jvm.Pilot.@@N@@
open Jvm Jvm.ClassFile Sem Op Lib Jvm.Free Jvm.Stand Jvm.LawKit Jvm.RoadKit Bundle
theorem ow {a0 : Array Value} {Z : State} (hw : ∀ d ∈ tables_1, d.before a0 Z = true) (i : Nat) {d : Jvm.Cond} (q : tables_1[i]? = some d) : d.before a0 Z = true := hw _ (List.mem_of_getElem? q)
theorem own_acEt {x y : Value} (h : x = y) : Jvm.Free.XT.acmp .eq x y = true := by simp [Jvm.Free.XT.acmp, h]
theorem own_acEf {x y : Value} (h : ¬ x = y) : Jvm.Free.XT.acmp .eq x y = false := by simp [Jvm.Free.XT.acmp, h]
theorem own_acNt {x y : Value} (h : ¬ x = y) : Jvm.Free.XT.acmp .ne x y = true := by simp [Jvm.Free.XT.acmp, h]
theorem own_acNf {x y : Value} (h : x = y) : Jvm.Free.XT.acmp .ne x y = false := by simp [Jvm.Free.XT.acmp, h]
theorem own_rem (x y : Int32) : x - (x / y) * y = x % y := by
  apply Int32.toInt_inj.mp
  have h1 := Int32.le_toInt (x % y)
  have h2 := Int32.toInt_lt (x % y)
  have e1 : (x - (x / y) * y).toInt = (x.toInt - (x / y).toInt * y.toInt).bmod (2 ^ 32) := by rw [Int32.toInt_sub, Int32.toInt_mul, Int.sub_bmod_bmod]
  rw [e1, Int32.toInt_div]
  have e2 : (x.toInt - (x.toInt.tdiv y.toInt).bmod (2 ^ 32) * y.toInt).bmod (2 ^ 32) = (x.toInt.tmod y.toInt).bmod (2 ^ 32) := by
    rw [← Int.sub_bmod_bmod, Int.bmod_mul_bmod, Int.sub_bmod_bmod, Int.tmod_def, Int.mul_comm]
  rw [e2, ← Int32.toInt_mod]
  exact Int.bmod_eq_of_le_mul_two (by omega) (by omega)
theorem own_cat {x : Value} (h : x.isRef = true) : x.category = 1 := by rcases ref_cases h with rfl | ⟨a, rfl⟩ <;> rfl
theorem own_nar {x : Value} {C : String} (h : x.isRef = true) : narrow (.object C) x = x := by rcases ref_cases h with rfl | ⟨a, rfl⟩ <;> rfl
theorem own_fit {x : Value} {C : String} (h : x.isRef = true) : fits (.object C) x = true := by rcases ref_cases h with rfl | ⟨a, rfl⟩ <;> rfl
theorem own_pure {Z : State} {h : Heap} {P : Option Value → Prop} : ∀ (v : Option Value) (h' : Heap) (L : List Loc), (Fr Z.heap.size L ∧ Ext Z.heap h' ∧ P v ∧ h = h') → Fr Z.heap.size L ∧ Keep h h' [] := fun v h' L q => ⟨q.1, q.2.2.2 ▸ Keep.refl _ _⟩
section OwnLayer
variable {p : Program} {l : Launch} {e : Env} {R : Room} {s : State} {m : MethodId} {args : Array Value} {below : List Frame} {meth : Method} {c : Code} {Z : State} {EL : List (String × Nat)} {a0 : Array Value} {T : State} {h : Heap} {k n : Nat} {sf : List Addr} {w : Bool}
/-- the tables since the start: wide (w): literals may have been interned; narrow: the Stand's own start -/
def own_rel : Bool → State → Vm → Nat → Prop
  | true, s, v0, k => s.Since v0 k
  | false, s, v0, _ => v0 = s.vm
def own_end : Bool → State → Outcome → State → List Loc → Nat → Nat → Prop
  | true, s, o, t, L, k, n => ReturnedEndW s o t L k n
  | false, s, o, t, L, k, n => FrameEnd s o t L k n
theorem own_alike {vm : Vm} {k0 : Nat} (r : own_rel w s vm k0) : s.vm.Alike vm := by
  cases w
  · cases r; exact Vm.Alike.refl _
  · exact r.1.alike
theorem own_found {vm : Vm} {k0 : Nat} {own : String} {c0 : ClassId} (r : own_rel w s vm k0) (q : s.vm.findClass own = some c0) : (s.setVm vm).vm.findClass own = some c0 := by
  show vm.findClass own = _
  rw [(own_alike r).findClass]; exact q
/-- where a walk stands: the Stand over the start with the tables at hand, the heap, nothing old written, the constants held, sf: cells that no constant stands for -/
def Wk (p : Program) (l : Launch) (e : Env) (R : Room) (s : State) (m : MethodId) (args : Array Value) (below : List Frame) (meth : Method) (c : Code) (Z : State) (EL : List (String × Nat)) (a0 : Array Value) (w : Bool) (T : State) (h : Heap) (k n : Nat) (sf : List Addr) : Prop :=
  EW Z a0 EL ∧ ∃ (vm0 : Vm) (locs : List Loc) (k0 : Nat), Stand p l e R (s.setVm vm0) m args below meth c T locs k n ∧ T.heap = h ∧ own_rel w s vm0 k0 ∧ k0 ≤ h.size ∧ Z.Warmed39 vm0 ∧ Fr Z.heap.size locs ∧ Ext Z.heap h ∧ CHr Z EL s.vm s.heap vm0 h ∧ ∀ x ∈ sf, x < h.size ∧ Safe Z EL vm0 h x
theorem Wk.here (H : Wk p l e R s m args below meth c Z EL a0 w T h k n sf) : At T m c below := by obtain ⟨-, _, _, _, X, -⟩ := H; exact X.here
theorem Wk.old (H : Wk p l e R s m args below meth c Z EL a0 w T h k n sf) : Ext Z.heap h := by obtain ⟨-, _, _, _, -, -, -, -, -, -, O, -⟩ := H; exact O
theorem Wk.more (H : Wk p l e R s m args below meth c Z EL a0 w T h k n sf) {k' n' : Nat} (hk : k ≤ k') (hn : n ≤ n') : Wk p l e R s m args below meth c Z EL a0 w T h k' n' sf := by
  obtain ⟨q, vm0, locs, k0, X, r⟩ := H; exact ⟨q, vm0, locs, k0, X.more hk hn, r⟩
theorem Wk.less (H : Wk p l e R s m args below meth c Z EL a0 w T h k n sf) {sf' : List Addr} (q : ∀ x ∈ sf', x ∈ sf) : Wk p l e R s m args below meth c Z EL a0 w T h k n sf' := by
  obtain ⟨q0, vm0, locs, k0, X, eT, r, hk, hZ, N, O, C, S⟩ := H; exact ⟨q0, vm0, locs, k0, X, eT, r, hk, hZ, N, O, C, fun x hx => S x (q x hx)⟩
def Go (p : Program) (e : Env) (below : List Frame) (Φ : State → Prop) (T : State) (g : JFrame) : Prop := ∃ U, Steps p.tables e below (T.setTop g) U ∧ Φ U
variable {Φ : State → Prop}
theorem Go.of {T' : State} {g g' : JFrame} (st : ∀ t, Steps p.tables e below (T'.setTop g') t → Steps p.tables e below (T.setTop g) t) (K : Go p e below Φ T' g') : Go p e below Φ T g := by
  obtain ⟨U, a, b⟩ := K; exact ⟨U, st U a, b⟩
theorem Go.by {T' : State} {g g' : JFrame} (st : Steps p.tables e below (T.setTop g) (T'.setTop g')) (K : Go p e below Φ T' g') : Go p e below Φ T g := by
  obtain ⟨U, a, b⟩ := K; exact ⟨U, st.trans a, b⟩
theorem Go.eq {g g' : JFrame} (q : g = g') (K : Go p e below Φ T g') : Go p e below Φ T g := q ▸ K
def own_fin (Z : State) (EL : List (String × Nat)) (w : Bool) (s : State) (below : List Frame) (Q : Option Value → Heap → Prop) (kc kn : Nat) (U : State) : Prop :=
  ∃ o, U.status = .running ∧ Ended U below o ∧ ∃ v L, o = .returned v ∧ (Fr Z.heap.size L ∧ Ext Z.heap U.heap ∧ Q v U.heap) ∧ CHr Z EL s.vm s.heap U.vm U.heap ∧ own_end w s o U L kc kn
/-- a method's contract -/
def Ct (l : Launch) (Z : State) (EL : List (String × Nat)) (a0 : Array Value) (w : Bool) (y : MethodName) (bytes : ByteArray) (maxL : Nat) (ret : Option FieldType) (ws : List Jvm.Cond) (rm : Room) (as' : Array Value) (h0 : Heap) (sf : List Addr) (Q : Option Value → Heap → Prop) : Prop :=
  MetFree l y (head1 (Jvm.Cond.code y bytes maxL ret :: ws) rm) (fun a U => a = as' ∧ Z.Warmed39 U.vm ∧ U.heap = h0 ∧ CHv Z EL U.vm h0 ∧ ∀ x ∈ sf, x < h0.size ∧ Safe Z EL U.vm h0 x) (fun _ _ _ _ _ => True)
    (fun _ U o U' => ∃ v L, o = .returned v ∧ (Fr Z.heap.size L ∧ Ext Z.heap U'.heap ∧ Q v U'.heap) ∧ CHr Z EL U.vm U.heap U'.vm U'.heap ∧ own_end w U o U' L rm.cells rm.slots)
theorem own_enter {y : MethodName} {bytes : ByteArray} {maxL : Nat} {ret : Option FieldType} {ws : List Jvm.Cond} {rm : Room} {as' : Array Value} {h0 : Heap} {Q : Option Value → Heap → Prop} (hp : plainFor y = true) (hE : EW Z a0 EL) (O : Ext Z.heap h0)
    (B : ∀ (p : Program) (e : Env) (s : State) (m : MethodId) (below : List Frame) (meth : Method) (c : Code) (s₁ : State), p.tables.exec = Jvm.exec → c.code = bytes → c.maxLocals = maxL → s.vm.findClass y.cls = some m.cls → meth.name = y.name → meth.sig.returnType = ret → meth.locks = false →
      Wk p l e rm s m as' below meth c Z EL a0 w s₁ h0 0 0 sf → Go p e below (own_fin Z EL w s below Q rm.cells rm.slots) s₁ (entryFrame m as' maxL)) :
    Ct l Z EL a0 w y bytes maxL ret ws rm as' h0 sf Q := by
  refine MetFree.of_bodySF hp hisR ?_
  intro p e s m args below meth c s₁ Bd hml0 hP hK
  obtain ⟨rfl, hZ, hh, hC, hS⟩ := hP
  have X0 : Stand p l e rm s m args below meth c s₁ [] 0 0 := Stand.of_body Bd
  have e0 : s₁.heap = h0 := by rw [← hh, Bd.state]; rfl
  obtain ⟨U, st, o, r1, r2, v, L, rfl, r3, r4, r5⟩ := B p e s m below meth c s₁ Bd.exec Bd.bytes hml0 (findClass_of_methodNamed Bd.named) (name_of_methodNamed Bd.named Bd.method).1 Bd.returns Bd.notSynchronized
    ⟨hE, s.vm, [], 0, X0, e0, by cases w; exact rfl; exact (State.WarmedH.refl s).since _, Nat.zero_le _, hZ, Fr.nil _, O, by rw [hh]; exact CHr.refl hC, hS⟩
  exact ⟨U, _, st, r1, r2, v, L, rfl, r3, r4, r5⟩
def own_sw (Z : State) (EL : List (String × Nat)) (sf : List Addr) (h : Heap) (a : Addr) : Prop := a ∈ sf ∨ (∃ C, Exa Z h a C ∧ C ≠ "java/lang/String" ∧ C ≠ "[B") ∨ (∃ cl ty, Arr Z h a cl ty ∧ ty ≠ .byte)
theorem own_sw.safe {vm0 : Vm} {a : Addr} (q : own_sw Z EL sf h a) (hal : Z.vm.Alike vm0) (S : ∀ x ∈ sf, x < h.size ∧ Safe Z EL vm0 h x) : Safe Z EL vm0 h a := by
  rcases q with q | ⟨C, E, h1, h2⟩ | ⟨cl, ty, A, ht⟩
  · exact (S a q).2
  · exact Safe.exa hal E h1 h2
  · exact Safe.arr hal A ht
theorem own_mem {a : Addr} (q : a ∈ sf) : own_sw Z EL sf h a := Or.inl q
theorem own_exa {a : Addr} {C : String} (E : Exa Z h a C) (h1 : C ≠ "java/lang/String" := by decide) (h2 : C ≠ "[B" := by decide) : own_sw Z EL sf h a := Or.inr (Or.inl ⟨C, E, h1, h2⟩)
theorem own_arr {a : Addr} {k0 : ClassId} {ty : FieldType} {z : Int32} {vs : List Value} {d : Value} (V : Arv Z h a k0 ty z vs d) (q : ty ≠ .byte := by decide) : own_sw Z EL sf h a := by
  obtain ⟨cl, A, -⟩ := V; exact Or.inr (Or.inr ⟨cl, ty, A, q⟩)
theorem own_wrote {vm0 : Vm} {locs : List Loc} {k0 : Nat} {T' : State} {h' : Heap} {a : Addr} {sl : Nat} {v : Value} (hE : EW Z a0 EL) (X' : Stand p l e R (s.setVm vm0) m args below meth c T' (locs ++ [⟨a, sl⟩]) k n) (e' : T'.heap = h') (W : Wr h h' a sl v) (r : own_rel w s vm0 k0) (hk : k0 ≤ h.size) (hZ : Z.Warmed39 vm0) (N : Fr Z.heap.size locs) (O : Ext Z.heap h) (C : CHr Z EL s.vm s.heap vm0 h) (S : ∀ x ∈ sf, x < h.size ∧ Safe Z EL vm0 h x) (ha : Z.heap.size ≤ a) (hs : own_sw Z EL sf h a) :
    Wk p l e R s m args below meth c Z EL a0 w T' h' k n sf := by
  have sa := hs.safe hZ.alike S
  have sz := W.size
  exact ⟨hE, vm0, _, k0, X', e', r, by rw [sz]; exact hk, hZ, Fr.snoc X' N ha, (Old.wr ⟨rfl, O⟩ W ha).2, C.trans (CHr.wr W sa C.1), fun x hx => ⟨by rw [sz]; exact (S x hx).1, Safe.wr W sa C.1 (S x hx).2⟩⟩
theorem own_irem (H : Wk p l e R s m args below meth c Z EL a0 w T h k n sf) (hx : p.tables.exec = Jvm.exec) {g : JFrame} (hg : g.method = m) {x y : Int32} {rest : List Value} (hd : decode c.code g.pc = .ok (.irem, 1)) (hs : g.stack = .int y :: .int x :: rest) (hy : y ≠ 0)
    (K : Go p e below Φ T { g with pc := g.pc + 1, stack := .int (x % y) :: rest }) : Go p e below Φ T g := by
  rw [← own_rem] at K
  exact Go.of (fun _ => XS.irem H.here hx hg hd hs hy) K
theorem own_getF (H : Wk p l e R s m args below meth c Z EL a0 w T h k n sf) (hx : p.tables.exec = Jvm.exec) {own R0 O nn d host : String} {index : Nat} (hown : s.vm.findClass own = some m.cls) (wd : (Cond.fieldLink own index R0 nn d).before a0 Z = true ∨ (Cond.fieldLinkNest own index R0 nn d host).before a0 Z = true) (via : Via Z R0 O nn d) {a : Addr} {v : Value} (F : Fld Z h a O nn d v) {g : JFrame} (hg : g.method = m) {rest : List Value} (hs : g.stack = .ref a :: rest) (hd : decode c.code g.pc = .ok (.getfield index, 3))
    (K : ∀ T', Wk p l e R s m args below meth c Z EL a0 w T' h k n sf → Go p e below Φ T' { g with pc := g.pc + 3, stack := v :: rest }) : Go p e below Φ T g := by
  obtain ⟨hE, vm0, locs, k0, X, eT, r, hk, hZ, N, O, C, S⟩ := H
  obtain ⟨T', X', e', st⟩ := getF X hx hZ (own_found r hown) wd via eT F hg hs hd
  exact Go.of st (K T' ⟨hE, vm0, locs, k0, X', e', r, hk, hZ, N, O, C, S⟩)
theorem own_getS (H : Wk p l e R s m args below meth c Z EL a0 w T h k n sf) (hx : p.tables.exec = Jvm.exec) {own R0 O nn d host : String} {index : Nat} (hown : s.vm.findClass own = some m.cls) (wd : (Cond.fieldLink own index R0 nn d).before a0 Z = true ∨ (Cond.fieldLinkNest own index R0 nn d host).before a0 Z = true) (via : Via Z R0 O nn d) {v : Value} (F : Sta Z Z.heap O nn d v) {g : JFrame} (hg : g.method = m) (hd : decode c.code g.pc = .ok (.getstatic index, 3))
    (K : ∀ T', Wk p l e R s m args below meth c Z EL a0 w T' h k n sf → Go p e below Φ T' { g with pc := g.pc + 3, stack := v :: g.stack }) : Go p e below Φ T g := by
  obtain ⟨hE, vm0, locs, k0, X, eT, r, hk, hZ, N, O, C, S⟩ := H
  obtain ⟨T', X', e', st⟩ := getS2 X hx hZ (own_found r hown) wd via eT (F.ext O) hg hd
  exact Go.of st (K T' ⟨hE, vm0, locs, k0, X', e', r, hk, hZ, N, O, C, S⟩)
theorem own_putF (H : Wk p l e R s m args below meth c Z EL a0 w T h k n sf) (hx : p.tables.exec = Jvm.exec) {own R0 O nn d host C : String} {index kk : Nat} {ty : FieldType} (hown : s.vm.findClass own = some m.cls) (wd : (Cond.fieldLink own index R0 nn d).before a0 Z = true ∨ (Cond.fieldLinkNest own index R0 nn d host).before a0 Z = true) (via : Via Z R0 O nn d)
    {a : Addr} {v old : Value} (F : Fld Z h a O nn d old) (E : Exa Z h a C) (L : (Cond.lays C O nn d).before a0 Z = true ∨ ((Cond.laysFinal C O nn d).before a0 Z = true ∧ own = O ∧ meth.name = "<init>")) (wi : (Cond.instantiable C kk).before a0 Z = true)
    (hty : parseFieldDescriptor d = some ty) (hn : narrow ty v = v) (hf : fits ty v = true) (ha : Z.heap.size ≤ a) (hsw : own_sw Z EL sf h a) {g : JFrame} (hg : g.method = m) {rest : List Value} (hs : g.stack = v :: .ref a :: rest) (hd : decode c.code g.pc = .ok (.putfield index, 3))
    (K : ∀ T' h', Wk p l e R s m args below meth c Z EL a0 w T' h' k n sf → Wr h h' a (Jvm.RoadKit.slotOf Z O nn d) v → Go p e below Φ T' { g with pc := g.pc + 3, stack := rest }) : Go p e below Φ T g := by
  obtain ⟨hE, vm0, locs, k0, X, eT, r, hk, hZ, N, Od, C, S⟩ := H
  obtain ⟨T', h', X', e', W, st⟩ := putF X hx hZ (own_found r hown) wd via eT F E L wi hty hn hf hg hs hd
  exact Go.of st (K T' h' (own_wrote hE X' e' W r hk hZ N Od C S ha hsw) W)
theorem own_putFN (H : Wk p l e R s m args below meth c Z EL a0 w T h k n sf) (hx : p.tables.exec = Jvm.exec) {own R0 O nn d C : String} {index kk : Nat} {ty : FieldType} (hown : s.vm.findClass own = some m.cls) (wd : (Cond.fieldLink own index R0 nn d).before a0 Z = true) (via : Via Z R0 O nn d)
    {a : Addr} {v v' old : Value} (F : Fld Z h a O nn d old) (E : Exa Z h a C) (L : (Cond.lays C O nn d).before a0 Z = true ∨ ((Cond.laysFinal C O nn d).before a0 Z = true ∧ own = O ∧ meth.name = "<init>")) (wi : (Cond.instantiable C kk).before a0 Z = true)
    (hty : parseFieldDescriptor d = some ty) (hn : narrow ty v = v') (hf : fits ty v' = true) (ha : Z.heap.size ≤ a) (hsw : own_sw Z EL sf h a) {g : JFrame} (hg : g.method = m) {rest : List Value} (hs : g.stack = v :: .ref a :: rest) (hd : decode c.code g.pc = .ok (.putfield index, 3))
    (K : ∀ T' h', Wk p l e R s m args below meth c Z EL a0 w T' h' k n sf → Wr h h' a (Jvm.RoadKit.slotOf Z O nn d) v' → Go p e below Φ T' { g with pc := g.pc + 3, stack := rest }) : Go p e below Φ T g := by
  obtain ⟨hE, vm0, locs, k0, X, eT, r, hk, hZ, N, Od, C, S⟩ := H
  obtain ⟨T', h', X', e', W, st⟩ := putFN X hx hZ (own_found r hown) wd via eT F E L wi hty hn hf hg hs hd
  exact Go.of st (K T' h' (own_wrote hE X' e' W r hk hZ N Od C S ha hsw) W)
theorem own_grew {vm0 : Vm} {locs : List Loc} {k0 : Nat} {T' : State} {h' : Heap} {k' n' : Nat} (hE : EW Z a0 EL) (X' : Stand p l e R (s.setVm vm0) m args below meth c T' locs k' n') (e' : T'.heap = h') (E : Ext h h') (hlt : h.size < h'.size) (r : own_rel w s vm0 k0) (hk : k0 ≤ h.size) (hZ : Z.Warmed39 vm0) (N : Fr Z.heap.size locs) (O : Ext Z.heap h) (C : CHr Z EL s.vm s.heap vm0 h) (S : ∀ x ∈ sf, x < h.size ∧ Safe Z EL vm0 h x) :
    Wk p l e R s m args below meth c Z EL a0 w T' h' k' n' (h.size :: sf) := by
  refine ⟨hE, vm0, _, k0, X', e', r, Nat.le_trans hk E.1, hZ, N, (Old.ext ⟨rfl, O⟩ E).2, C.trans (CHr.ext E C.1), fun x hx => ?_⟩
  rcases List.mem_cons.mp hx with rfl | hx
  · exact ⟨hlt, (Safe.new (Nat.le_refl _)).ext E C.1⟩
  · exact ⟨Nat.lt_of_lt_of_le (S x hx).1 E.1, (S x hx).2.ext E C.1⟩
theorem own_new (H : Wk p l e R s m args below meth c Z EL a0 w T h k n sf) (hx : p.tables.exec = Jvm.exec) {own C : String} {index nf : Nat} (hown : s.vm.findClass own = some m.cls) (w1 : (Cond.classLink own index C).before a0 Z = true) (wi : (Cond.instantiable C nf).before a0 Z = true) (wz : (Cond.initialized C).before a0 Z = true)
    {g : JFrame} (hg : g.method = m) (hd : decode c.code g.pc = .ok (.new index, 3)) (hc : k + 1 ≤ R.cells) (hl : n + nf ≤ R.slots)
    (K : ∀ T' h' b, b = h.size → Wk p l e R s m args below meth c Z EL a0 w T' h' (k + 1) (n + nf) (b :: sf) → Ext h h' → Exa Z h' b C → (∀ {O nm d : String} {ty : FieldType}, Laid Z a0 C O nm d → parseFieldDescriptor d = some ty → Fld Z h' b O nm d (defaultValue ty)) → Go p e below Φ T' { g with pc := g.pc + 3, stack := .ref b :: g.stack }) : Go p e below Φ T g := by
  obtain ⟨hE, vm0, locs, k0, X, eT, r, hk, hZ, N, O, C, S⟩ := H
  obtain ⟨T', h', X', e', E, A, D, -, st⟩ := newO X hx hZ (own_found r hown) w1 wi wz eT hg hd hc hl
  exact Go.of st (K T' h' _ rfl (own_grew hE X' e' E A.lt r hk hZ N O C S) E A D)
theorem own_newP (H : Wk p l e R s m args below meth c Z EL a0 w T h k n sf) (hx : p.tables.exec = Jvm.exec) {aty : ArrayType} (w1 : (Cond.arrayClass (newarray.typeOf aty)).before a0 Z = true) {g : JFrame} (hg : g.method = m) (hd : decode c.code g.pc = .ok (.newarray aty, 2)) {z : Int32} {rest : List Value} (hs : g.stack = .int z :: rest)
    (hz : ¬ z < 0) {cap : Nat} (hcap : z.toNatClampNeg ≤ cap) (hb : cap * 8 ≤ 536870912) (hc : k + 1 ≤ R.cells) (hl : n + cap ≤ R.slots)
    (K : ∀ T' h' b kA, b = h.size → Wk p l e R s m args below meth c Z EL a0 w T' h' (k + 1) (n + cap) (b :: sf) → Ext h h' → Arv Z h' b kA (newarray.typeOf aty) z [] (defaultValue (newarray.typeOf aty)) → Go p e below Φ T' { g with pc := g.pc + 2, stack := .ref b :: rest }) : Go p e below Φ T g := by
  obtain ⟨hE, vm0, locs, k0, X, eT, r, hk, hZ, N, O, C, S⟩ := H
  obtain ⟨T', h', kA, X', e', E, A, st⟩ := newP X hx hZ w1 eT hg hd hs hz hcap hb hc hl
  exact Go.of st (K T' h' _ kA rfl (own_grew hE X' e' E A.lt r hk hZ N O C S) E (Arv.new A hz))
theorem own_newR (H : Wk p l e R s m args below meth c Z EL a0 w T h k n sf) (hx : p.tables.exec = Jvm.exec) {own C : String} {index : Nat} (hown : s.vm.findClass own = some m.cls) (w1 : (Cond.classLink own index C).before a0 Z = true) (w2 : (Cond.arrayOver (.object C)).before a0 Z = true) {g : JFrame} (hg : g.method = m) (hd : decode c.code g.pc = .ok (.anewarray index, 3)) {z : Int32} {rest : List Value} (hs : g.stack = .int z :: rest)
    (hz : ¬ z < 0) {cap : Nat} (hcap : z.toNatClampNeg ≤ cap) (hb : cap * 8 ≤ 536870912) (hc : k + 1 ≤ R.cells) (hl : n + cap ≤ R.slots)
    (K : ∀ T' h' b kA, b = h.size → Wk p l e R s m args below meth c Z EL a0 w T' h' (k + 1) (n + cap) (b :: sf) → Ext h h' → Arv Z h' b kA (.object C) z [] .null → Ovr Z kA C → Go p e below Φ T' { g with pc := g.pc + 3, stack := .ref b :: rest }) : Go p e below Φ T g := by
  obtain ⟨hE, vm0, locs, k0, X, eT, r, hk, hZ, N, O, C, S⟩ := H
  obtain ⟨T', h', kA, X', e', E, A, Ov, st⟩ := newR X hx hZ (own_found r hown) w1 w2 eT hg hd hs hz hcap hb hc hl
  exact Go.of st (K T' h' _ kA rfl (own_grew hE X' e' E A.lt r hk hZ N O C S) E (Arv.new A hz) Ov)
theorem own_initO (H : Wk p l e R s m args below meth c Z EL a0 w T h k n sf) (hx : p.tables.exec = Jvm.exec) {own : String} {idx : Nat} (hown : s.vm.findClass own = some m.cls) (w1 : (Cond.methodLink own idx Lib.objectInit).before a0 Z = true) (w2 : (Cond.instanceMethod Lib.objectInit).before a0 Z = true)
    (w3 : (Cond.code Lib.objectInit ⟨#[0xb1]⟩ 1 none).before a0 Z = true) {g : JFrame} (hg : g.method = m) (hsize : g.locals.size = c.maxLocals) {a : Addr} {rest : List Value} (hs : g.stack = .ref a :: rest) (hd : decode c.code g.pc = .ok (.invokespecial idx, 3))
    (hf : 1 ≤ R.frames) {W : Nat} (hW : 2 * g.monitorRoom + (rest.map fun v => v.category).sum ≤ W) (hl : W + 12 ≤ R.locals)
    (K : ∀ T', Wk p l e R s m args below meth c Z EL a0 w T' h k n sf → Go p e below Φ T' { g with pc := g.pc + 3, stack := rest }) : Go p e below Φ T g := by
  obtain ⟨hE, vm0, locs, k0, X, eT, r, hk, hZ, N, O, C, S⟩ := H
  obtain ⟨T', X', e', st⟩ := initO X hx hZ (own_found r hown) w1 w2 w3 eT hg hsize hs hd hf hW hl
  exact Go.of st (K T' ⟨hE, vm0, locs, k0, X', e', r, hk, hZ, N, O, C, S⟩)
theorem own_ldcI (H : Wk p l e R s m args below meth c Z EL a0 w T h k n sf) (hx : p.tables.exec = Jvm.exec) {own : String} {index : Nat} {v : Int32} (hown : s.vm.findClass own = some m.cls) (wc : (Cond.constant own index v).before a0 Z = true) {g : JFrame} (hg : g.method = m) (hd : decode c.code g.pc = .ok (.ldc index, 2))
    (K : Go p e below Φ T { g with pc := g.pc + 2, stack := .int v :: g.stack }) : Go p e below Φ T g := by
  obtain ⟨hE, vm0, locs, k0, X, eT, r, hk, hZ, N, O, C, S⟩ := H
  exact Go.of (X.ldcInt hx (own_found r hown) (mvT hZ wc) hg hd) K
theorem own_len (H : Wk p l e R s m args below meth c Z EL a0 w T h k n sf) (hx : p.tables.exec = Jvm.exec) {a : Addr} {kA : ClassId} {ty : FieldType} {z : Int32} {vs : List Value} {d : Value} (V : Arv Z h a kA ty z vs d) {g : JFrame} (hg : g.method = m) {rest : List Value} (hs : g.stack = .ref a :: rest) (hd : decode c.code g.pc = .ok (.arraylength, 1))
    (K : Go p e below Φ T { g with pc := g.pc + 1, stack := .int z :: rest }) : Go p e below Φ T g := by
  obtain ⟨hE, vm0, locs, k0, X, eT, r, hk, hZ, N, O, C, S⟩ := H
  obtain ⟨cl, A, -, q, nz, -, -⟩ := V
  refine Go.of (fun t ht => X.arraylength hx (by rw [eT]; exact A.1) (State.isArrayOf_alike hZ.alike A.2.1) hg hs hd t ?_) K
  rw [len_of q nz]; exact ht
theorem own_ld {op : Instr} {ty : FieldType} (law : ∀ {s T : State} {locs : List Loc} {a : Addr} {cell : Cell} {j : Int32} {v : Value} {k n : Nat} (X : Stand p l e R s m args below meth c T locs k n) (hcell : T.heap[a]? = some cell) (harr : s.isArrayOf cell ty) (hknown : cell.vm ≠ .unknown) (hin : ¬ (j < 0 ∨ cell.slots.size ≤ j.toNatClampNeg)) (hv : cell.slots[j.toNatClampNeg]? = some v) {g : JFrame} (hg : g.method = m) {rest : List Value} (hs : g.stack = .int j :: .ref a :: rest) (hd : decode c.code g.pc = .ok (op, 1)) (target : State), Steps p.tables e below (T.setTop { g with pc := g.pc + 1, stack := v :: rest }) target → Steps p.tables e below (T.setTop g) target)
    (H : Wk p l e R s m args below meth c Z EL a0 w T h k n sf) {a : Addr} {kA : ClassId} {z j : Int32} {vs : List Value} {d v : Value} (V : Arv Z h a kA ty z vs d) (hj : ¬ j < 0 ∧ j < z) (hv : vs.getD j.toNatClampNeg d = v) {g : JFrame} (hg : g.method = m) {rest : List Value} (hs : g.stack = .int j :: .ref a :: rest) (hd : decode c.code g.pc = .ok (op, 1))
    (K : Go p e below Φ T { g with pc := g.pc + 1, stack := v :: rest }) : Go p e below Φ T g := by
  obtain ⟨hE, vm0, locs, k0, X, eT, r, hk, hZ, N, O, C, S⟩ := H
  obtain ⟨cl, A, -, q, nz, Hs, -⟩ := V
  exact Go.of (law X (by rw [eT]; exact A.1) (State.isArrayOf_alike hZ.alike A.2.1) A.2.2 (inb_of q hj) (Hs.at (inb_of q hj) hv) hg hs hd) K
theorem own_caload (H : Wk p l e R s m args below meth c Z EL a0 w T h k n sf) (hx : p.tables.exec = Jvm.exec) {a : Addr} {kA : ClassId} {z j : Int32} {vs : List Value} {d v : Value} (V : Arv Z h a kA .char z vs d) (hj : ¬ j < 0 ∧ j < z) (hv : vs.getD j.toNatClampNeg d = v) {g : JFrame} (hg : g.method = m) {rest : List Value} (hs : g.stack = .int j :: .ref a :: rest) (hd : decode c.code g.pc = .ok (.caload, 1))
    (K : Go p e below Φ T { g with pc := g.pc + 1, stack := v :: rest }) : Go p e below Φ T g := own_ld (fun {_ _ _ _ _ _ _ _ _} X h1 h2 h3 h4 h5 {_} hg {_} hs hd t k => X.caload hx h1 h2 h3 h4 h5 hg hs hd t k) H V hj hv hg hs hd K
theorem own_baload (H : Wk p l e R s m args below meth c Z EL a0 w T h k n sf) (hx : p.tables.exec = Jvm.exec) {a : Addr} {kA : ClassId} {z j : Int32} {vs : List Value} {d v : Value} (V : Arv Z h a kA .byte z vs d) (hj : ¬ j < 0 ∧ j < z) (hv : vs.getD j.toNatClampNeg d = v) {g : JFrame} (hg : g.method = m) {rest : List Value} (hs : g.stack = .int j :: .ref a :: rest) (hd : decode c.code g.pc = .ok (.baload, 1))
    (K : Go p e below Φ T { g with pc := g.pc + 1, stack := v :: rest }) : Go p e below Φ T g := own_ld (fun {_ _ _ _ _ _ _ _ _} X h1 h2 h3 h4 h5 {_} hg {_} hs hd t k => X.baloadBytes hx h1 h2 h3 h4 h5 hg hs hd t k) H V hj hv hg hs hd K
theorem own_aaload (H : Wk p l e R s m args below meth c Z EL a0 w T h k n sf) (hx : p.tables.exec = Jvm.exec) {a : Addr} {kA : ClassId} {ty : FieldType} {z j : Int32} {vs : List Value} {d v : Value} (V : Arv Z h a kA ty z vs d) (hty : ty.isReference = true) (hj : ¬ j < 0 ∧ j < z) (hv : vs.getD j.toNatClampNeg d = v) {g : JFrame} (hg : g.method = m) {rest : List Value} (hs : g.stack = .int j :: .ref a :: rest) (hd : decode c.code g.pc = .ok (.aaload, 1))
    (K : Go p e below Φ T { g with pc := g.pc + 1, stack := v :: rest }) : Go p e below Φ T g := own_ld (fun {_ _ _ _ _ _ _ _ _} X h1 h2 h3 h4 h5 {_} hg {_} hs hd t k => X.aaload hx h1 h2 hty h3 h4 h5 hg hs hd t k) H V hj hv hg hs hd K
theorem own_castore (H : Wk p l e R s m args below meth c Z EL a0 w T h k n sf) (hx : p.tables.exec = Jvm.exec) {a : Addr} {kA : ClassId} {z j x : Int32} {vs : List Value} {d : Value} (V : Arv Z h a kA .char z vs d) (hj : ¬ j < 0 ∧ j < z) (i : Nat) (hi : j.toNatClampNeg = i) (hl : i < vs.length) (ha : Z.heap.size ≤ a) {g : JFrame} (hg : g.method = m) {rest : List Value} (hs : g.stack = .int x :: .int j :: .ref a :: rest) (hd : decode c.code g.pc = .ok (.castore, 1))
    (K : ∀ T' h', Wk p l e R s m args below meth c Z EL a0 w T' h' k n sf → Wr h h' a j.toNatClampNeg (.int (nar .char x)) → Arv Z h' a kA .char z (vs.set i (.int (nar .char x))) d → Go p e below Φ T' { g with pc := g.pc + 1, stack := rest }) : Go p e below Φ T g := by
  have hsw : own_sw Z EL sf h a := own_arr V (by simp)
  obtain ⟨hE, vm0, locs, k0, X, eT, r, hk, hZ, N, O, C, S⟩ := H
  obtain ⟨cl, A, q1, q, nz, Hs, G⟩ := V
  obtain ⟨T', h', X', e', W, st⟩ := stC X hx hZ eT A (inb_of q hj) hg hs hd
  exact Go.of st (K T' h' (own_wrote hE X' e' W r hk hZ N O C S ha hsw) W (Arv.set A q1 q nz Hs G (fits_nar_char _) W i hi hl))
theorem own_bastore (H : Wk p l e R s m args below meth c Z EL a0 w T h k n sf) (hx : p.tables.exec = Jvm.exec) {a : Addr} {kA : ClassId} {z j x : Int32} {vs : List Value} {d : Value} (V : Arv Z h a kA .byte z vs d) (hj : ¬ j < 0 ∧ j < z) (i : Nat) (hi : j.toNatClampNeg = i) (hl : i < vs.length) (ha : Z.heap.size ≤ a) (hsw : own_sw Z EL sf h a) {g : JFrame} (hg : g.method = m) {rest : List Value} (hs : g.stack = .int x :: .int j :: .ref a :: rest) (hd : decode c.code g.pc = .ok (.bastore, 1))
    (K : ∀ T' h', Wk p l e R s m args below meth c Z EL a0 w T' h' k n sf → Wr h h' a j.toNatClampNeg (.int (nar .byte x)) → Arv Z h' a kA .byte z (vs.set i (.int (nar .byte x))) d → Go p e below Φ T' { g with pc := g.pc + 1, stack := rest }) : Go p e below Φ T g := by
  obtain ⟨hE, vm0, locs, k0, X, eT, r, hk, hZ, N, O, C, S⟩ := H
  obtain ⟨cl, A, q1, q, nz, Hs, G⟩ := V
  obtain ⟨T', h', X', e', W, st⟩ := stB X hx hZ eT A (inb_of q hj) hg hs hd
  exact Go.of st (K T' h' (own_wrote hE X' e' W r hk hZ N O C S ha hsw) W (Arv.set A q1 q nz Hs G (fits_nar_byte _) W i hi hl))
theorem own_aastore (H : Wk p l e R s m args below meth c Z EL a0 w T h k n sf) (hx : p.tables.exec = Jvm.exec) {a : Addr} {kA : ClassId} {C : String} {z j : Int32} {v : Value} {vs : List Value} {d : Value} (V : Arv Z h a kA (.object C) z vs d) (hj : ¬ j < 0 ∧ j < z) (i : Nat) (hi : j.toNatClampNeg = i) (hl : i < vs.length) (F : Sto Z h a v) (hf : v.isRef = true) (ha : Z.heap.size ≤ a) {g : JFrame} (hg : g.method = m) {rest : List Value} (hs : g.stack = v :: .int j :: .ref a :: rest) (hd : decode c.code g.pc = .ok (.aastore, 1))
    (K : ∀ T' h', Wk p l e R s m args below meth c Z EL a0 w T' h' k n sf → Wr h h' a j.toNatClampNeg v → Arv Z h' a kA (.object C) z (vs.set i v) d → Go p e below Φ T' { g with pc := g.pc + 1, stack := rest }) : Go p e below Φ T g := by
  have hsw : own_sw Z EL sf h a := own_arr V (by simp)
  obtain ⟨hE, vm0, locs, k0, X, eT, r, hk, hZ, N, O, C, S⟩ := H
  obtain ⟨cl, A, q1, q, nz, Hs, G⟩ := V
  obtain ⟨T', h', X', e', W, st⟩ := stR X hx hZ eT A (inb_of q hj) rfl F hg hs hd
  exact Go.of st (K T' h' (own_wrote hE X' e' W r hk hZ N O C S ha hsw) W (Arv.set A q1 q nz Hs G (by rcases ref_cases hf with rfl | ⟨_, rfl⟩ <;> rfl) W i hi hl))
theorem own_cast (H : Wk p l e R s m args below meth c Z EL a0 w T h k n sf) (hx : p.tables.exec = Jvm.exec) {own K0 : String} {index : Nat} (hown : s.vm.findClass own = some m.cls) (wd : (Cond.classLink own index K0).before a0 Z = true) {a : Addr} (F : Ins Z h a K0 true) {g : JFrame} (hg : g.method = m) {rest : List Value} (hs : g.stack = .ref a :: rest) (hd : decode c.code g.pc = .ok (.checkcast index, 3))
    (K : ∀ T', Wk p l e R s m args below meth c Z EL a0 w T' h k n sf → Go p e below Φ T' { g with pc := g.pc + 3 }) : Go p e below Φ T g := by
  obtain ⟨hE, vm0, locs, k0, X, eT, r, hk, hZ, N, O, C, S⟩ := H
  obtain ⟨T', X', e', st⟩ := castY X hx hZ (own_found r hown) wd eT F hg hs hd
  exact Go.of st (K T' ⟨hE, vm0, locs, k0, X', e', r, hk, hZ, N, O, C, S⟩)
theorem own_inst (H : Wk p l e R s m args below meth c Z EL a0 w T h k n sf) (hx : p.tables.exec = Jvm.exec) {own K0 : String} {index : Nat} (hown : s.vm.findClass own = some m.cls) (wd : (Cond.classLink own index K0).before a0 Z = true) {a : Addr} (F : Ins Z h a K0 true) {g : JFrame} (hg : g.method = m) {rest : List Value} (hs : g.stack = .ref a :: rest) (hd : decode c.code g.pc = .ok (.instanceof index, 3))
    (K : ∀ T', Wk p l e R s m args below meth c Z EL a0 w T' h k n sf → Go p e below Φ T' { g with pc := g.pc + 3, stack := .int 1 :: rest }) : Go p e below Φ T g := by
  obtain ⟨hE, vm0, locs, k0, X, eT, r, hk, hZ, N, O, C, S⟩ := H
  obtain ⟨T', X', e', st⟩ := instY X hx hZ (own_found r hown) wd eT F hg hs hd
  exact Go.of st (K T' ⟨hE, vm0, locs, k0, X', e', r, hk, hZ, N, O, C, S⟩)
/-- behind a literal or a call that may intern -/
theorem own_past {vm0 : Vm} {k1 : Nat} {T' : State} {h' : Heap} {locs' : List Loc} {k' n' : Nat} (hE : EW Z a0 EL) (X' : Stand p l e R (s.setVm T'.vm) m args below meth c T' locs' k' n') (e' : T'.heap = h') (r : s.Since T'.vm k1) (hk : k1 ≤ h'.size) (hZ : Z.Warmed39 T'.vm) (N : Fr Z.heap.size locs') (O : Ext Z.heap h') (C : CHr Z EL s.vm s.heap vm0 h) (C' : CHr Z EL vm0 h T'.vm h') (S : ∀ x ∈ sf, x < h.size ∧ Safe Z EL vm0 h x) :
    Wk p l e R s m args below meth c Z EL a0 true T' h' k' n' sf :=
  ⟨hE, T'.vm, _, k1, X', e', r, hk, hZ, N, O, C.trans C', fun x hx => ⟨Nat.lt_of_lt_of_le (S x hx).1 C'.2.1, C'.safe (S x hx).1 (S x hx).2⟩⟩
theorem own_ldcS (H : Wk p l e R s m args below meth c Z EL a0 true T h k n sf) (hx : p.tables.exec = Jvm.exec) {own text : String} {index : Nat} (hown : s.vm.findClass own = some m.cls) (wd : (Cond.stringLink own index text).before a0 Z = true) (wS : ∀ a ∈ Bundle.stringAtoms, a.before a0 Z = true) (hmem : (own, index) ∈ EL)
    {vs : List Value} {z : Int32} (ht : (∀ c ∈ text.toList, c.toNat < 256) ∧ text.toList.map (fun c => Value.int (Jvm.Lit.byteI c.toNat.toUInt16)) = vs) (hz : ¬ z < 0) (hl : z.toNatClampNeg = vs.length)
    {g : JFrame} (hg : g.method = m) (hd : decode c.code g.pc = .ok (.ldc index, 2)) {nn : Nat} (hn : 4 * text.toList.length ≤ nn) (hbig : nn ≤ 536870912) (hc : k + 2 ≤ R.cells) (hl' : n + (nn + 4) ≤ R.slots)
    (K : ∀ T' h' a b kb, Wk p l e R s m args below meth c Z EL a0 true T' h' (k + 2) (n + (nn + 4)) sf → Ext h h' → Exa Z h' a "java/lang/String" → Fld Z h' a "java/lang/String" "coder" "B" (.int 0) → Fld Z h' a "java/lang/String" "value" "[B" (.ref b) → Arv Z h' b kb .byte z vs (.int 0) → (∀ x ∈ sf, x ≠ a ∧ x ≠ b) → Go p e below Φ T' { g with pc := g.pc + 2, stack := .ref a :: g.stack }) : Go p e below Φ T g := by
  obtain ⟨hE, vm0, locs, k0, X, eT, r, hk, hZ, N, O, C, S⟩ := H
  obtain ⟨a, T', h', k1, b, kb, X', e', E, r', hk', hZ', hf', E1, F1, F2, V, -, -, C', -, hne, st⟩ := ldcCH X hx hZ (own_found r hown) wd wS eT r hk hE hmem C.1 ht hz hl hg hd hn hbig hc hl'
  have H' : Wk p l e R s m args below meth c Z EL a0 true T' h' (k + 2) (n + (nn + 4)) sf := own_past hE X' e' r' hk' hZ' N (Old.ext ⟨rfl, O⟩ E).2 C C' S
  exact Go.of st (K T' h' a b kb H' E E1 F1 F2 V fun x hx => hne x (C'.safe (S x hx).1 (S x hx).2))
theorem own_ldcO (H : Wk p l e R s m args below meth c Z EL a0 true T h k n sf) (hx : p.tables.exec = Jvm.exec) {own text : String} {index : Nat} (hown : s.vm.findClass own = some m.cls) (wd : (Cond.stringLink own index text).before a0 Z = true) (wS : ∀ a ∈ Bundle.stringAtoms, a.before a0 Z = true)
    {g : JFrame} (hg : g.method = m) (hd : decode c.code g.pc = .ok (.ldc index, 2)) {nn : Nat} (hn : 4 * text.toList.length ≤ nn) (hbig : nn ≤ 536870912) (hc : k + 2 ≤ R.cells) (hl' : n + (nn + 4) ≤ R.slots)
    (K : ∀ T' h' a, Wk p l e R s m args below meth c Z EL a0 true T' h' (k + 2) (n + (nn + 4)) sf → Ext h h' → Go p e below Φ T' { g with pc := g.pc + 2, stack := .ref a :: g.stack }) : Go p e below Φ T g := by
  obtain ⟨hE, vm0, locs, k0, X, eT, r, hk, hZ, N, O, C, S⟩ := H
  obtain ⟨a, T', h', k1, X', e', E, r', hk', hZ', hf', C', -, st⟩ := ldcOH X hx hZ (own_found r hown) wd wS eT r hk hE C.1 hg hd hn hbig hc hl'
  exact Go.of st (K T' h' a (own_past hE X' e' r' hk' hZ' N (Old.ext ⟨rfl, O⟩ E).2 C C' S) E)
/-! returns -/
theorem own_leave (H : Wk p l e R s m args below meth c Z EL a0 w T h k n sf) {v : Option Value} {Q : Option Value → Heap → Prop} (hl : meth.locks = false) (hv : meth.sig.returnType = none → v = none) (q : Q v h) (hk : k ≤ R.cells) (hn : n ≤ R.slots) {g : JFrame}
    (st : ∀ {locs : List Loc} {s' : State} (X : Stand p l e R s' m args below meth c T locs k n) {fs : List Frame}, (∀ (f : JFrame) (acts : List Action), f.method = m → f.locked = none → f.entered = [] → (doReturn e (T.setTop f) acts v).1 = T.setFrames fs) → Steps p.tables e below (T.setTop g) (T.setFrames fs)) :
    Go p e below (own_fin Z EL w s below Q R.cells R.slots) T g := by
  obtain ⟨hE, vm0, locs, k0, X, eT, r, hk0, hZ, N, O, C, S⟩ := H
  have CU : CHr Z EL s.vm s.heap T.vm T.heap := by rw [eT]; exact C.trans (CHv.at X hZ hE C.1)
  cases w
  · have r : vm0 = s.vm := r
    subst r
    obtain ⟨fs, hr, hrun, hended, hW, hsame⟩ := X.leave hv hl
    exact ⟨_, st X hr, _, hrun, hended, v, locs, rfl, ⟨N, by show Ext Z.heap T.heap; rw [eT]; exact O, by show Q v T.heap; rw [eT]; exact q⟩, CU, ⟨⟨v, rfl⟩, hW, hsame.mono hk hn⟩⟩
  · obtain ⟨fs, hr, hrun, hended, hend⟩ := X.leaveW r (by rw [eT]; exact hk0) hv hl
    exact ⟨_, st X hr, _, hrun, hended, v, locs, rfl, ⟨N, by show Ext Z.heap T.heap; rw [eT]; exact O, by show Q v T.heap; rw [eT]; exact q⟩, CU, ⟨hend.1, hend.2.1, hend.2.2.1, hend.2.2.2.mono hk hn⟩⟩
theorem own_retI (H : Wk p l e R s m args below meth c Z EL a0 w T h k n sf) (hx : p.tables.exec = Jvm.exec) (hl : meth.locks = false) (hret : meth.sig.returnType = some .int) {pc : Nat} {Ls : Array Slot} {z : Int32} {rest : List Value} {Q : Option Value → Heap → Prop} (hd : decode c.code pc = .ok (.ireturn, 1)) (q : Q (some (.int z)) h) (hk : k ≤ R.cells) (hn : n ≤ R.slots) :
    Go p e below (own_fin Z EL w s below Q R.cells R.slots) T (mkF m pc Ls (.int z :: rest)) :=
  own_leave H hl (fun h => by rw [hret] at h; cases h) q hk hn fun {_ _} X {_} hr => retI X hx hret hd hr
theorem own_retN (H : Wk p l e R s m args below meth c Z EL a0 w T h k n sf) (hx : p.tables.exec = Jvm.exec) (hl : meth.locks = false) {t : FieldType} (hret : meth.sig.returnType = some t) (ht : t = .boolean ∨ t = .byte ∨ t = .char ∨ t = .short) {pc : Nat} {Ls : Array Slot} {z : Int32} {rest : List Value} {Q : Option Value → Heap → Prop} (hd : decode c.code pc = .ok (.ireturn, 1)) (q : Q (some (.int (nar t z))) h) (hk : k ≤ R.cells) (hn : n ≤ R.slots) :
    Go p e below (own_fin Z EL w s below Q R.cells R.slots) T (mkF m pc Ls (.int z :: rest)) :=
  own_leave H hl (fun h => by rw [hret] at h; cases h) q hk hn fun {_ _} X {_} hr => retN X hx hret ht hd hr
theorem own_ret (H : Wk p l e R s m args below meth c Z EL a0 w T h k n sf) (hx : p.tables.exec = Jvm.exec) (hl : meth.locks = false) (hret : meth.sig.returnType = none) {pc : Nat} {Ls : Array Slot} {Q : Option Value → Heap → Prop} (hd : decode c.code pc = .ok (.return_, 1)) (q : Q none h) (hk : k ≤ R.cells) (hn : n ≤ R.slots) :
    Go p e below (own_fin Z EL w s below Q R.cells R.slots) T (mkF m pc Ls []) :=
  own_leave H hl (fun _ => rfl) q hk hn fun {_ _} X {_} hr => X.returnOut hx hret hd hr
theorem own_retA_step {locs : List Loc} (X : Stand p l e R s m args below meth c T locs k n) (hx : p.tables.exec = Jvm.exec) {t : FieldType} (hret : meth.sig.returnType = some t) (ht : t.isReference = true) {pc : Nat} {Ls : Array Slot} {v : Value} (hv : v.isRef = true) {rest : List Value} (hd : decode c.code pc = .ok (.areturn, 1)) {fs : List Frame}
    (hr : ∀ (f : JFrame) (acts : List Action), f.method = m → f.locked = none → f.entered = [] → (doReturn e (T.setTop f) acts (some v)).1 = T.setFrames fs) : Steps p.tables e below (T.setTop (mkF m pc Ls (v :: rest))) (T.setFrames fs) := by
  have hm' : T.vm.method? m = some meth := X.method'
  show Steps p.tables e below (T.setTop { method := m, pc := pc, locals := Ls, stack := _ :: rest, locked := none }) _
  jvm_step X.here [X.here.top, hx, hd, hm', hret, hv, ht]
  first | (intro acts; rw [hr _ acts rfl rfl rfl]) | rw [hr _ _ rfl rfl rfl]
  exact Steps.refl _
theorem own_retA (H : Wk p l e R s m args below meth c Z EL a0 w T h k n sf) (hx : p.tables.exec = Jvm.exec) (hl : meth.locks = false) {t : FieldType} (hret : meth.sig.returnType = some t) (ht : t.isReference = true) {pc : Nat} {Ls : Array Slot} {v : Value} (hv : v.isRef = true) {rest : List Value} {Q : Option Value → Heap → Prop} (hd : decode c.code pc = .ok (.areturn, 1)) (q : Q (some v) h) (hk : k ≤ R.cells) (hn : n ≤ R.slots) :
    Go p e below (own_fin Z EL w s below Q R.cells R.slots) T (mkF m pc Ls (v :: rest)) :=
  own_leave H hl (fun h => by rw [hret] at h; cases h) q hk hn fun {_ _} X {_} hr => own_retA_step X hx hret ht hv hd hr
/-! calls that a law of the library pays (Back), or a narrow contract -/
theorem own_kept {vm0 : Vm} {locs L : List Loc} {k0 : Nat} {kc kn : Nat} {B : Pt} {ws : List Addr} (hE : EW Z a0 EL) (X' : Stand p l e R (s.setVm vm0) m args below meth c B.U B.locs B.cells B.slots) (r : own_rel w s vm0 k0) (hk : k0 ≤ h.size) (hZ : Z.Warmed39 vm0) (N : Fr Z.heap.size locs) (O : Ext Z.heap h) (C : CHr Z EL s.vm s.heap vm0 h) (S : ∀ x ∈ sf, x < h.size ∧ Safe Z EL vm0 h x)
    (hL : Fr Z.heap.size L) (Kp : Keep h B.U.heap ws) (hws : ∀ x ∈ ws, Z.heap.size ≤ x ∧ own_sw Z EL sf h x) (el : B.locs = locs ++ L) (ek : B.cells = k + kc) (en : B.slots = n + kn) : Wk p l e R s m args below meth c Z EL a0 w B.U B.U.heap (k + kc) (n + kn) sf := by
  have hs : ∀ x ∈ ws, Safe Z EL vm0 h x := fun x hx => (hws x hx).2.safe hZ.alike S
  refine ⟨hE, vm0, locs ++ L, k0, by rw [← el, ← ek, ← en]; exact X', rfl, r, Nat.le_trans hk Kp.1, hZ, Fr.app N hL, (Old.keep ⟨rfl, O⟩ Kp fun x hx => (hws x hx).1).2, C.trans (CHr.keep Kp hs C.1), fun x hx => ⟨Nat.lt_of_lt_of_le (S x hx).1 Kp.1, (S x hx).2.keep Kp hs C.1⟩⟩
theorem own_staticB (H : Wk p l e R s m args below meth c Z EL a0 w T h k n sf) (hx : p.tables.exec = Jvm.exec) {own : String} {index : Nat} {y : MethodName} {bytes : ByteArray} {maxL : Nat} {ret : Option FieldType} (hown : s.vm.findClass own = some m.cls) (w1 : (Cond.methodLink own index y).before a0 Z = true) (w2 : (Cond.static y).before a0 Z = true) (w3 : (Cond.initialized y.cls).before a0 Z = true) (w4 : (Cond.code y bytes maxL ret).before a0 Z = true)
    (hy : y.cls ≠ "java/lang/invoke/MethodHandle" ∧ y.cls ≠ "java/lang/invoke/VarHandle") {W kc kn : Nat} {as' : Array Value} (Q : Option Value → Heap → List Loc → Prop)
    (hB : ∀ vm0, Z.Warmed39 vm0 → CHv Z EL vm0 h → Back l R p e below (s.setVm vm0) args y 3 W (fun A a => a = as' ∧ A.U.heap = h ∧ A.cells + kc ≤ R.cells ∧ A.slots + kn ≤ R.slots) (fun A _ v B => ∃ L, Q v B.U.heap L ∧ B.locs = A.locs ++ L ∧ B.cells = A.cells + kc ∧ B.slots = A.slots + kn))
    {ws : List Addr} (hq : ∀ v h' L, Q v h' L → Fr Z.heap.size L ∧ Keep h h' ws) (hws : ∀ x ∈ ws, Z.heap.size ≤ x ∧ own_sw Z EL sf h x)
    {g : JFrame} (hg : g.method = m) (hsize : g.locals.size = c.maxLocals) {argsL rest : List Value} (has : argsL.toArray = as') (hlen : ∀ sig, parseMethodDescriptor y.desc = some sig → argsL.length = sig.parameters.length) (hstack : g.stack = argsL.reverse ++ rest) (hW : 2 * g.monitorRoom + (rest.map fun v => v.category).sum ≤ W) (hd : decode c.code g.pc = .ok (.invokestatic index, 3)) (hc : k + kc ≤ R.cells) (hn : n + kn ≤ R.slots)
    (K : ∀ T' h' v L, Wk p l e R s m args below meth c Z EL a0 w T' h' (k + kc) (n + kn) sf → Q v h' L → Go p e below Φ T' { g with pc := g.pc + 3, stack := v.toList ++ rest }) : Go p e below Φ T g := by
  obtain ⟨hE, vm0, locs, k0, X, eT, r, hk, hZ, N, O, C, S⟩ := H
  obtain ⟨v, vm1, B, hWm, X', ⟨L, hQ, el, ek, en⟩, st⟩ := Jvm.LawKit.callS X hx (own_found r hown) (mvT hZ w1) (mvT hZ w2) (mvT hZ w3) (mvT hZ w4) hy (hB vm0 hZ C.1) hg hsize hlen hstack hW hd fun _ _ => ⟨has, eT, hc, hn⟩
  obtain ⟨hL, Kp⟩ := hq _ _ _ hQ
  exact Go.of st (K B.U _ v L (own_kept hE X' r hk hZ N O C S hL Kp hws el ek en) hQ)
theorem own_specialB (H : Wk p l e R s m args below meth c Z EL a0 w T h k n sf) (hx : p.tables.exec = Jvm.exec) {own : String} {index : Nat} {y : MethodName} {bytes : ByteArray} {maxL : Nat} (hy1 : y.name = "<init>") (hown : s.vm.findClass own = some m.cls) (w1 : (Cond.methodLink own index y).before a0 Z = true) (w2 : (Cond.instanceMethod y).before a0 Z = true) (w4 : (Cond.code y bytes maxL none).before a0 Z = true)
    (hy : y.cls ≠ "java/lang/invoke/MethodHandle" ∧ y.cls ≠ "java/lang/invoke/VarHandle") {W kc kn : Nat} {as' : Array Value} (Q : Option Value → Heap → List Loc → Prop)
    (hB : ∀ vm0, Z.Warmed39 vm0 → CHv Z EL vm0 h → Back l R p e below (s.setVm vm0) args y 3 W (fun A a => a = as' ∧ A.U.heap = h ∧ A.cells + kc ≤ R.cells ∧ A.slots + kn ≤ R.slots) (fun A _ v B => ∃ L, Q v B.U.heap L ∧ B.locs = A.locs ++ L ∧ B.cells = A.cells + kc ∧ B.slots = A.slots + kn))
    {ws : List Addr} (hq : ∀ v h' L, Q v h' L → Fr Z.heap.size L ∧ Keep h h' ws) (hws : ∀ x ∈ ws, Z.heap.size ≤ x ∧ own_sw Z EL sf h x)
    {g : JFrame} (hg : g.method = m) (hsize : g.locals.size = c.maxLocals) {a : Addr} {argsL rest : List Value} (has : (.ref a :: argsL).toArray = as') (hlen : ∀ sig, parseMethodDescriptor y.desc = some sig → argsL.length = sig.parameters.length) (hstack : g.stack = argsL.reverse ++ .ref a :: rest) (hW : 2 * g.monitorRoom + (rest.map fun v => v.category).sum ≤ W) (hd : decode c.code g.pc = .ok (.invokespecial index, 3)) (hc : k + kc ≤ R.cells) (hn : n + kn ≤ R.slots)
    (K : ∀ T' h' v L, Wk p l e R s m args below meth c Z EL a0 w T' h' (k + kc) (n + kn) sf → Q v h' L → Go p e below Φ T' { g with pc := g.pc + 3, stack := v.toList ++ rest }) : Go p e below Φ T g := by
  obtain ⟨hE, vm0, locs, k0, X, eT, r, hk, hZ, N, O, C, S⟩ := H
  obtain ⟨v, vm1, B, hWm, X', ⟨L, hQ, el, ek, en⟩, st⟩ := X.specialBack hx hy1 (own_found r hown) (mvT hZ w1) (mvT hZ w2) (mvT hZ w4) hy (hB vm0 hZ C.1) hg hsize (Steps.refl _) hlen hstack hW hd fun _ _ => ⟨has, eT, hc, hn⟩
  obtain ⟨hL, Kp⟩ := hq _ _ _ hQ
  exact Go.by st (K B.U _ v L (own_kept hE X' r hk hZ N O C S hL Kp hws el ek en) hQ)
theorem own_virtualB (H : Wk p l e R s m args below meth c Z EL a0 w T h k n sf) (hx : p.tables.exec = Jvm.exec) {own C : String} {index : Nat} {y z : MethodName} (hown : s.vm.findClass own = some m.cls) (w1 : (Cond.methodLink own index y).before a0 Z = true) (w2 : (Cond.declares y).before a0 Z = true) (w3 : (Cond.selects C y z).before a0 Z = true) (hnf : y = z) (w4 : (Cond.instanceMethod z).before a0 Z = true)
    (hy : y.cls ≠ "java/lang/invoke/MethodHandle" ∧ y.cls ≠ "java/lang/invoke/VarHandle") {W kc kn : Nat} {as' : Array Value} (Q : Option Value → Heap → List Loc → Prop)
    (hB : ∀ vm0, Z.Warmed39 vm0 → CHv Z EL vm0 h → Back l R p e below (s.setVm vm0) args z 3 W (fun A a => a = as' ∧ A.U.heap = h ∧ A.cells + kc ≤ R.cells ∧ A.slots + kn ≤ R.slots) (fun A _ v B => ∃ L, Q v B.U.heap L ∧ B.locs = A.locs ++ L ∧ B.cells = A.cells + kc ∧ B.slots = A.slots + kn))
    {ws : List Addr} (hq : ∀ v h' L, Q v h' L → Fr Z.heap.size L ∧ Keep h h' ws) (hws : ∀ x ∈ ws, Z.heap.size ≤ x ∧ own_sw Z EL sf h x)
    {b : Addr} (E : Exa Z h b C) {g : JFrame} (hg : g.method = m) (hsize : g.locals.size = c.maxLocals) {argsL rest : List Value} (has : (.ref b :: argsL).toArray = as') (hlen : ∀ sig, parseMethodDescriptor y.desc = some sig → argsL.length = sig.parameters.length) (hstack : g.stack = argsL.reverse ++ .ref b :: rest) (hW : 2 * g.monitorRoom + (rest.map fun v => v.category).sum ≤ W) (hd : decode c.code g.pc = .ok (.invokevirtual index, 3)) (hc : k + kc ≤ R.cells) (hn : n + kn ≤ R.slots)
    (K : ∀ T' h' v L, Wk p l e R s m args below meth c Z EL a0 w T' h' (k + kc) (n + kn) sf → Q v h' L → Go p e below Φ T' { g with pc := g.pc + 3, stack := v.toList ++ rest }) : Go p e below Φ T g := by
  subst hnf
  obtain ⟨hE, vm0, locs, k0, X, eT, r, hk, hZ, N, O, C, S⟩ := H
  obtain ⟨cq, kq, qa, qb, qc⟩ := isOf (s := s.setVm vm0) hZ eT E
  obtain ⟨v, vm1, B, hWm, X', ⟨L, hQ, el, ek, en⟩, st⟩ := X.virtualBack hx (own_found r hown) (mvT hZ w1) (mvT hZ w2) (notFace_of_selects (args := #[]) (mvT hZ w3)) (mvT hZ w3) (mvT hZ w4) hy (hB vm0 hZ C.1) qa qc hg hsize (Steps.refl _) hlen hstack hW hd fun _ _ => ⟨has, eT, hc, hn⟩
  obtain ⟨hL, Kp⟩ := hq _ _ _ hQ
  exact Go.by st (K B.U _ v L (own_kept hE X' r hk hZ N O C S hL Kp hws el ek en) hQ)
/-- a narrow contract at a call -/
theorem own_backN {y : MethodName} {bytes : ByteArray} {maxL : Nat} {ret : Option FieldType} {rm : Room} {len W : Nat} {as' : Array Value} {vm0 : Vm} {Q : Option Value → Heap → Prop} (hM : Ct l Z [] a0 false y bytes maxL ret [] rm as' h [] Q)
    (wc : (Cond.code y bytes maxL ret).before a0 Z = true) (wz : (Cond.initialized y.cls).before a0 Z = true) (hf : rm.frames + 1 ≤ R.frames) (hl : W + (maxL + 11) + rm.locals ≤ R.locals) (hZ : Z.Warmed39 vm0) :
    Back l R p e below (s.setVm vm0) args y len W (fun A a => a = as' ∧ A.U.heap = h ∧ A.cells + rm.cells ≤ R.cells ∧ A.slots + rm.slots ≤ R.slots) (fun A _ v B => ∃ L, (Fr Z.heap.size L ∧ Ext Z.heap B.U.heap ∧ Q v B.U.heap) ∧ B.locs = A.locs ++ L ∧ B.cells = A.cells + rm.cells ∧ B.slots = A.slots + rm.slots) := by
  refine backOf (s := s.setVm vm0) (Q := fun v h' L => Fr Z.heap.size L ∧ Ext Z.heap h' ∧ Q v h') ?_ hZ wc wz hf hl
  intro p e ha hc hk s m args below hf happ hP hK
  obtain ⟨n, o, h1, h2, h3, v, L, rfl, r, -, q⟩ := hM p e ha hc hk s m args below hf happ ⟨hP.1, hP.2.1, hP.2.2, (fun _ hq => nomatch hq), (fun _ hq => nomatch hq)⟩ hK
  exact ⟨n, _, h1, h2, h3, v, L, rfl, r, q⟩
/-! calls of a callee that may intern -/
theorem own_backW {y : MethodName} {bytes : ByteArray} {maxL : Nat} {ret : Option FieldType} {rm : Room} {len W : Nat} {as' : Array Value} {sfc : List Addr} {vm0 : Vm} {Q : Option Value → Heap → Prop} (hM : Ct l Z EL a0 true y bytes maxL ret [] rm as' h sfc Q)
    (wc : (Cond.code y bytes maxL ret).before a0 Z = true) (wz : (Cond.initialized y.cls).before a0 Z = true) (hf : rm.frames + 1 ≤ R.frames) (hl : W + (maxL + 11) + rm.locals ≤ R.locals) (hZ : Z.Warmed39 vm0) (hE : EW Z a0 EL) (H : CHv Z EL vm0 h) (S : ∀ x ∈ sfc, x < h.size ∧ Safe Z EL vm0 h x) :
    BackS l R p e below (s.setVm vm0) args y len W (fun A a => a = as' ∧ A.U.heap = h ∧ A.cells + rm.cells ≤ R.cells ∧ A.slots + rm.slots ≤ R.slots)
      (fun A _ v B => ∃ L, (Fr Z.heap.size L ∧ Ext Z.heap B.U.heap ∧ Q v B.U.heap) ∧ B.locs = A.locs ++ L ∧ B.cells = A.cells + rm.cells ∧ B.slots = A.slots + rm.slots ∧ CHr Z EL vm0 h B.U.vm B.U.heap) :=
  BackS.of_freeW (bytes := bytes) (maxL := maxL) (ret := ret) (E := fun _ first o t L k n => k = rm.cells ∧ n = rm.slots ∧ (∃ v, o = .returned v ∧ Fr Z.heap.size L ∧ Ext Z.heap t.heap ∧ Q v t.heap) ∧ CHr Z EL first.vm first.heap t.vm t.heap) hM hf hl
    (fun m meth c A a Y hp => have hU : Z.Warmed39 A.U.vm := wtrans (s := s.setVm vm0) hZ Y.warmed
      ⟨by show (Cond.and _ .tt).before a A.U = true; rw [Cond.before_and, mv hU wc]; rfl, mv hU wc, mv hU wz, hp.2.2.1, hp.2.2.2⟩)
    (fun m meth c A a g mk Y hp => have q := CHv.at Y hZ hE H
      ⟨hp.1, wtrans (s := s.setVm vm0) hZ Y.warmed, hp.2.1, q.1, fun x hx => ⟨(S x hx).1, q.safe (S x hx).1 (S x hx).2⟩⟩) (fun _ _ _ _ _ _ _ _ _ => trivial)
    (fun _ _ _ _ ⟨v, L, h1, h2, h3, h4⟩ => ⟨L, _, _, h4, rfl, rfl, ⟨v, h1, h2⟩, h3⟩)
    (fun m meth c A a g mk v t L k n Y hp _ _ ⟨e1, e2, ⟨v', e3, e4⟩, e5⟩ => by
      cases e3; subst e1 e2
      refine ⟨L, e4, rfl, rfl, rfl, (CHv.at Y hZ hE H).trans ?_⟩
      rw [← hp.2.1]; exact e5)
theorem own_wide {vm0 : Vm} {locs L : List Loc} {k0 : Nat} {kc kn : Nat} {B : Pt} (hE : EW Z a0 EL) (X' : Stand p l e R (s.setVm B.U.vm) m args below meth c B.U B.locs B.cells B.slots) (r : s.Since vm0 k0) (hk : k0 ≤ h.size) (eT : T.heap = h) (h2 : (s.setVm vm0).Since B.U.vm B.U.heap.size) (gr : T.heap.size ≤ B.U.heap.size) (hZ : Z.Warmed39 vm0) (N : Fr Z.heap.size locs) (C : CHr Z EL s.vm s.heap vm0 h) (S : ∀ x ∈ sf, x < h.size ∧ Safe Z EL vm0 h x)
    (hL : Fr Z.heap.size L) (O : Ext Z.heap B.U.heap) (el : B.locs = locs ++ L) (ek : B.cells = k + kc) (en : B.slots = n + kn) (C' : CHr Z EL vm0 h B.U.vm B.U.heap) : Wk p l e R s m args below meth c Z EL a0 true B.U B.U.heap (k + kc) (n + kn) sf := by
  refine own_past hE (by rw [← ek, ← en]; exact X') rfl (r.trans h2 (Nat.le_trans hk (by rw [← eT]; exact gr))) (Nat.le_refl _) (State.Warmed39.trans (t := s.setVm vm0) hZ h2.1) (by rw [el]; exact Fr.app N hL) O C C' S
theorem own_staticW (H : Wk p l e R s m args below meth c Z EL a0 true T h k n sf) (hx : p.tables.exec = Jvm.exec) {own : String} {index : Nat} {y : MethodName} {bytes : ByteArray} {maxL : Nat} {ret : Option FieldType} (hown : s.vm.findClass own = some m.cls) (w1 : (Cond.methodLink own index y).before a0 Z = true) (w2 : (Cond.static y).before a0 Z = true) (w3 : (Cond.initialized y.cls).before a0 Z = true) (w4 : (Cond.code y bytes maxL ret).before a0 Z = true)
    (hy : y.cls ≠ "java/lang/invoke/MethodHandle" ∧ y.cls ≠ "java/lang/invoke/VarHandle") {W : Nat} {rm : Room} {as' : Array Value} {sfc : List Addr} {Q : Option Value → Heap → Prop} (hM : Ct l Z EL a0 true y bytes maxL ret [] rm as' h sfc Q) (hsf : ∀ x ∈ sfc, x ∈ sf) (hf : rm.frames + 1 ≤ R.frames) (hl : W + (maxL + 11) + rm.locals ≤ R.locals)
    {g : JFrame} (hg : g.method = m) (hsize : g.locals.size = c.maxLocals) {argsL rest : List Value} (has : argsL.toArray = as') (hlen : ∀ sig, parseMethodDescriptor y.desc = some sig → argsL.length = sig.parameters.length) (hstack : g.stack = argsL.reverse ++ rest) (hW : 2 * g.monitorRoom + (rest.map fun v => v.category).sum ≤ W) (hd : decode c.code g.pc = .ok (.invokestatic index, 3)) (hc : k + rm.cells ≤ R.cells) (hn : n + rm.slots ≤ R.slots)
    (K : ∀ T' h' v, Wk p l e R s m args below meth c Z EL a0 true T' h' (k + rm.cells) (n + rm.slots) sf → h.size ≤ h'.size → Q v h' → Go p e below Φ T' { g with pc := g.pc + 3, stack := v.toList ++ rest }) : Go p e below Φ T g := by
  obtain ⟨hE, vm0, locs, k0, X, eT, r, hk, hZ, N, O, C, S⟩ := H
  obtain ⟨v, vm1, B, hWm, X', h2, gr, ⟨L, ⟨hL, O', hQ⟩, el, ek, en, C'⟩, st⟩ := callSS X hx (own_found r hown) (mvT hZ w1) (mvT hZ w2) (mvT hZ w3) (mvT hZ w4) hy (own_backW hM w4 w3 hf hl hZ hE C.1 fun x hx => S x (hsf x hx)) hg hsize hlen hstack hW hd fun _ _ => ⟨has, eT, hc, hn⟩
  exact Go.by st (K B.U _ v (own_wide hE X' r hk eT h2 gr hZ N C S hL O' el ek en C') C'.2.1 hQ)
theorem own_specialW (H : Wk p l e R s m args below meth c Z EL a0 true T h k n sf) (hx : p.tables.exec = Jvm.exec) {own : String} {index : Nat} {y : MethodName} {bytes : ByteArray} {maxL : Nat} (hy1 : y.name = "<init>") (hown : s.vm.findClass own = some m.cls) (w1 : (Cond.methodLink own index y).before a0 Z = true) (w2 : (Cond.instanceMethod y).before a0 Z = true) (w3 : (Cond.initialized y.cls).before a0 Z = true) (w4 : (Cond.code y bytes maxL none).before a0 Z = true)
    (hy : y.cls ≠ "java/lang/invoke/MethodHandle" ∧ y.cls ≠ "java/lang/invoke/VarHandle") {W : Nat} {rm : Room} {as' : Array Value} {sfc : List Addr} {Q : Option Value → Heap → Prop} (hM : Ct l Z EL a0 true y bytes maxL none [] rm as' h sfc Q) (hsf : ∀ x ∈ sfc, x ∈ sf) (hf : rm.frames + 1 ≤ R.frames) (hl : W + (maxL + 11) + rm.locals ≤ R.locals)
    {g : JFrame} (hg : g.method = m) (hsize : g.locals.size = c.maxLocals) {a : Addr} {argsL rest : List Value} (has : (.ref a :: argsL).toArray = as') (hlen : ∀ sig, parseMethodDescriptor y.desc = some sig → argsL.length = sig.parameters.length) (hstack : g.stack = argsL.reverse ++ .ref a :: rest) (hW : 2 * g.monitorRoom + (rest.map fun v => v.category).sum ≤ W) (hd : decode c.code g.pc = .ok (.invokespecial index, 3)) (hc : k + rm.cells ≤ R.cells) (hn : n + rm.slots ≤ R.slots)
    (K : ∀ T' h' v, Wk p l e R s m args below meth c Z EL a0 true T' h' (k + rm.cells) (n + rm.slots) sf → h.size ≤ h'.size → Q v h' → Go p e below Φ T' { g with pc := g.pc + 3, stack := v.toList ++ rest }) : Go p e below Φ T g := by
  obtain ⟨hE, vm0, locs, k0, X, eT, r, hk, hZ, N, O, C, S⟩ := H
  obtain ⟨v, vm1, B, hWm, X', h2, gr, ⟨L, ⟨hL, O', hQ⟩, el, ek, en, C'⟩, st⟩ := X.specialBackS hx hy1 (own_found r hown) (mvT hZ w1) (mvT hZ w2) (mvT hZ w4) hy (own_backW hM w4 w3 hf hl hZ hE C.1 fun x hx => S x (hsf x hx)) hg hsize (Steps.refl _) hlen hstack hW hd fun _ _ => ⟨has, eT, hc, hn⟩
  exact Go.by st (K B.U _ v (own_wide hE X' r hk eT h2 gr hZ N C S hL O' el ek en C') C'.2.1 hQ)
theorem own_virtualW (H : Wk p l e R s m args below meth c Z EL a0 true T h k n sf) (hx : p.tables.exec = Jvm.exec) {own C : String} {index : Nat} {y z : MethodName} {bytes : ByteArray} {maxL : Nat} {ret : Option FieldType} (hown : s.vm.findClass own = some m.cls) (w1 : (Cond.methodLink own index y).before a0 Z = true) (w2 : (Cond.declares y).before a0 Z = true) (hnf : ∀ vm0, Z.Warmed39 vm0 → NotFace (s.setVm vm0) y) (w3 : (Cond.selects C y z).before a0 Z = true) (w5 : (Cond.instanceMethod z).before a0 Z = true) (w6 : (Cond.initialized z.cls).before a0 Z = true) (w4 : (Cond.code z bytes maxL ret).before a0 Z = true)
    (hy : y.cls ≠ "java/lang/invoke/MethodHandle" ∧ y.cls ≠ "java/lang/invoke/VarHandle") {W : Nat} {rm : Room} {as' : Array Value} {sfc : List Addr} {Q : Option Value → Heap → Prop} (hM : Ct l Z EL a0 true z bytes maxL ret [] rm as' h sfc Q) (hsf : ∀ x ∈ sfc, x ∈ sf) (hf : rm.frames + 1 ≤ R.frames) (hl : W + (maxL + 11) + rm.locals ≤ R.locals)
    {b : Addr} (E : Exa Z h b C) {g : JFrame} (hg : g.method = m) (hsize : g.locals.size = c.maxLocals) {argsL rest : List Value} (has : (.ref b :: argsL).toArray = as') (hlen : ∀ sig, parseMethodDescriptor y.desc = some sig → argsL.length = sig.parameters.length) (hstack : g.stack = argsL.reverse ++ .ref b :: rest) (hW : 2 * g.monitorRoom + (rest.map fun v => v.category).sum ≤ W) (hd : decode c.code g.pc = .ok (.invokevirtual index, 3)) (hc : k + rm.cells ≤ R.cells) (hn : n + rm.slots ≤ R.slots)
    (K : ∀ T' h' v, Wk p l e R s m args below meth c Z EL a0 true T' h' (k + rm.cells) (n + rm.slots) sf → h.size ≤ h'.size → Q v h' → Go p e below Φ T' { g with pc := g.pc + 3, stack := v.toList ++ rest }) : Go p e below Φ T g := by
  obtain ⟨hE, vm0, locs, k0, X, eT, r, hk, hZ, N, O, C, S⟩ := H
  obtain ⟨cq, kq, qa, qb, qc⟩ := isOf (s := s.setVm vm0) hZ eT E
  obtain ⟨v, vm1, B, hWm, X', h2, gr, ⟨L, ⟨hL, O', hQ⟩, el, ek, en, C'⟩, st⟩ := X.virtualBackS hx (own_found r hown) (mvT hZ w1) (mvT hZ w2) (hnf vm0 hZ) (mvT hZ w3) (mvT hZ w5) hy (own_backW hM w4 w6 hf hl hZ hE C.1 fun x hx => S x (hsf x hx)) qa qc hg hsize (Steps.refl _) hlen hstack hW hd fun _ _ => ⟨has, eT, hc, hn⟩
  exact Go.by st (K B.U _ v (own_wide hE X' r hk eT h2 gr hZ N C S hL O' el ek en C') C'.2.1 hQ)
theorem own_nf {C : String} {y z : MethodName} (w3 : (Cond.selects C y z).before a0 Z = true) (q : y = z) : ∀ vm0, Z.Warmed39 vm0 → NotFace (s.setVm vm0) y := fun vm0 hZ => by
  subst q; exact notFace_of_selects (args := #[]) (mvT (s := s.setVm vm0) hZ w3)
theorem own_ifaceW (H : Wk p l e R s m args below meth c Z EL a0 true T h k n sf) (hx : p.tables.exec = Jvm.exec) {own C : String} {index count : Nat} {xi y : MethodName} {bytes : ByteArray} {maxL : Nat} {ret : Option FieldType} (hown : s.vm.findClass own = some m.cls) (w1 : (Cond.methodLink own index xi).before a0 Z = true) (w2 : (Cond.declares xi).before a0 Z = true) (w3 : (Cond.interfaceMethod xi.cls xi.cls xi.name xi.desc).before a0 Z = true) (w3f : ((Cond.interfaceMethod xi.cls xi.cls xi.name xi.desc).onTables && (Cond.interfaceMethod xi.cls xi.cls xi.name xi.desc).keepsFace) = true) (w5 : (Cond.selects C xi y).before a0 Z = true) (w6 : (Cond.instanceMethod y).before a0 Z = true) (w7 : (Cond.publicMethod y).before a0 Z = true) (w8 : (Cond.unhidden C xi.name xi.desc).before a0 Z = true) (w9 : (Cond.castable C xi.cls).before a0 Z = true) (w10 : (Cond.initialized y.cls).before a0 Z = true) (w4 : (Cond.code y bytes maxL ret).before a0 Z = true)
    (hy : xi.cls ≠ "java/lang/invoke/MethodHandle" ∧ xi.cls ≠ "java/lang/invoke/VarHandle") {W : Nat} {rm : Room} {as' : Array Value} {sfc : List Addr} {Q : Option Value → Heap → Prop} (hM : Ct l Z EL a0 true y bytes maxL ret [] rm as' h sfc Q) (hsf : ∀ x ∈ sfc, x ∈ sf) (hf : rm.frames + 1 ≤ R.frames) (hl : W + (maxL + 11) + rm.locals ≤ R.locals)
    {b : Addr} (E : Exa Z h b C) {g : JFrame} (hg : g.method = m) (hsize : g.locals.size = c.maxLocals) {argsL rest : List Value} (has : (.ref b :: argsL).toArray = as') (hlen : ∀ sig, parseMethodDescriptor xi.desc = some sig → argsL.length = sig.parameters.length) (hstack : g.stack = argsL.reverse ++ .ref b :: rest) (hW : 2 * g.monitorRoom + (rest.map fun v => v.category).sum ≤ W) (hd : decode c.code g.pc = .ok (.invokeinterface index count, 5)) (hc : k + rm.cells ≤ R.cells) (hn : n + rm.slots ≤ R.slots)
    (K : ∀ T' h' v, Wk p l e R s m args below meth c Z EL a0 true T' h' (k + rm.cells) (n + rm.slots) sf → h.size ≤ h'.size → Q v h' → Go p e below Φ T' { g with pc := g.pc + 5, stack := v.toList ++ rest }) : Go p e below Φ T g := by
  obtain ⟨hE, vm0, locs, k0, X, eT, r, hk, hZ, N, O, C, S⟩ := H
  obtain ⟨cq, kq, qa, qb, qc⟩ := isOf (s := s.setVm vm0) hZ eT E
  obtain ⟨v, vm1, B, hWm, X', h2, gr, ⟨L, ⟨hL, O', hQ⟩, el, ek, en, C'⟩, st⟩ := X.interfaceBackS hx (own_found r hown) (mvT hZ w1) (mvT hZ w2) (mvT hZ w3 w3f) (mvT hZ w5) (mvT hZ w6) (mvT hZ w7) (mvT hZ w8) (mvT hZ w9) hy (own_backW hM w4 w10 hf hl hZ hE C.1 fun x hx => S x (hsf x hx)) qa qb qc hg hsize (Steps.refl _) hlen hstack hW hd fun _ _ => ⟨has, eT, hc, hn⟩
  exact Go.by st (K B.U _ v (own_wide hE X' r hk eT h2 gr hZ N C S hL O' el ek en C') C'.2.1 hQ)
end OwnLayer
end Jvm.Pilot.@@N@@
namespace Jvm.Pilot.@@N@@
open Jvm Jvm.ClassFile Sem Op Lib Jvm.Free Jvm.Stand Jvm.LawKit Jvm.RoadKit Bundle Jvm.Pilot.@@N@@.Jvm.D
theorem ef_rm_num (m : MethodId) (x0 : Addr) : entryFrame m #[(.ref x0)] 1 = mkF m 0 #[.val (.ref x0)] [] := by first | (simp [entryFrame, mkF, argsToLocals, Value.category]; done) | rfl
theorem pn_0 : plainName "java/lang/Number" = true := by first | (simp [plainName, overriddenIn]; done) | decide +kernel
theorem d_jdk_18_1_0 : decode jdk_18_method_1_code 0 = .ok (.aload_n 0, 1) := by decide +kernel
theorem d_jdk_18_1_1 : decode jdk_18_method_1_code 1 = .ok (.invokespecial 1, 3) := by decide +kernel
theorem d_jdk_18_1_4 : decode jdk_18_method_1_code 4 = .ok (.return_, 1) := by decide +kernel
theorem ef_rm_rec (m : MethodId) (x0 : Addr) : entryFrame m #[(.ref x0)] 1 = mkF m 0 #[.val (.ref x0)] [] := by first | (simp [entryFrame, mkF, argsToLocals, Value.category]; done) | rfl
theorem pn_1 : plainName "java/lang/Record" = true := by first | (simp [plainName, overriddenIn]; done) | decide +kernel
theorem d_jdk_30_1_0 : decode jdk_30_method_1_code 0 = .ok (.aload_n 0, 1) := by decide +kernel
theorem d_jdk_30_1_1 : decode jdk_30_method_1_code 1 = .ok (.invokespecial 1, 3) := by decide +kernel
theorem d_jdk_30_1_4 : decode jdk_30_method_1_code 4 = .ok (.return_, 1) := by decide +kernel
theorem ef_rm_ii (m : MethodId) (x0 : Addr) (x1 : Int32) : entryFrame m #[(.ref x0), (.int x1)] 2 = mkF m 0 #[.val (.ref x0), .val (.int x1)] [] := by first | (simp [entryFrame, mkF, argsToLocals, Value.category]; done) | rfl
theorem pn_2 : plainName "java/lang/Integer" = true := by first | (simp [plainName, overriddenIn]; done) | decide +kernel
theorem d_jdk_33_23_0 : decode jdk_33_method_23_code 0 = .ok (.aload_n 0, 1) := by decide +kernel
theorem d_jdk_33_23_1 : decode jdk_33_method_23_code 1 = .ok (.invokespecial 202, 3) := by decide +kernel
theorem pd_0 : parseMethodDescriptor "()V" = some ⟨[], none⟩ := by decide +kernel
theorem d_jdk_33_23_4 : decode jdk_33_method_23_code 4 = .ok (.aload_n 0, 1) := by decide +kernel
theorem d_jdk_33_23_5 : decode jdk_33_method_23_code 5 = .ok (.iload_n 1, 1) := by decide +kernel
theorem d_jdk_33_23_6 : decode jdk_33_method_23_code 6 = .ok (.putfield 205, 3) := by decide +kernel
theorem d_jdk_33_23_9 : decode jdk_33_method_23_code 9 = .ok (.return_, 1) := by decide +kernel
theorem ef_rm_vo (m : MethodId) (x0 : Int32) : entryFrame m #[(.int x0)] 1 = mkF m 0 #[.val (.int x0)] [] := by first | (simp [entryFrame, mkF, argsToLocals, Value.category]; done) | rfl
theorem d_jdk_33_22_0 : decode jdk_33_method_22_code 0 = .ok (.iload_n 0, 1) := by decide +kernel
theorem d_jdk_33_22_1 : decode jdk_33_method_22_code 1 = .ok (.bipush (-128), 2) := by decide +kernel
theorem d_jdk_33_22_3 : decode jdk_33_method_22_code 3 = .ok (.if_icmp .lt 20, 3) := by decide +kernel
theorem d_jdk_33_22_23 : decode jdk_33_method_22_code 23 = .ok (.new 1, 3) := by decide +kernel
theorem d_jdk_33_22_26 : decode jdk_33_method_22_code 26 = .ok (.dup, 1) := by decide +kernel
theorem d_jdk_33_22_27 : decode jdk_33_method_22_code 27 = .ok (.iload_n 0, 1) := by decide +kernel
theorem d_jdk_33_22_28 : decode jdk_33_method_22_code 28 = .ok (.invokespecial 199, 3) := by decide +kernel
theorem pd_1 : parseMethodDescriptor "(I)V" = some ⟨[.int], none⟩ := by decide +kernel
theorem d_jdk_33_22_31 : decode jdk_33_method_22_code 31 = .ok (.areturn, 1) := by decide +kernel
theorem d_jdk_33_22_6 : decode jdk_33_method_22_code 6 = .ok (.iload_n 0, 1) := by decide +kernel
theorem d_jdk_33_22_7 : decode jdk_33_method_22_code 7 = .ok (.getstatic 191, 3) := by decide +kernel
theorem d_jdk_33_22_10 : decode jdk_33_method_22_code 10 = .ok (.if_icmp .gt 13, 3) := by decide +kernel
theorem d_jdk_33_22_13 : decode jdk_33_method_22_code 13 = .ok (.getstatic 195, 3) := by decide +kernel
theorem d_jdk_33_22_16 : decode jdk_33_method_22_code 16 = .ok (.iload_n 0, 1) := by decide +kernel
theorem d_jdk_33_22_17 : decode jdk_33_method_22_code 17 = .ok (.sipush 128, 3) := by decide +kernel
theorem d_jdk_33_22_20 : decode jdk_33_method_22_code 20 = .ok (.iadd, 1) := by decide +kernel
theorem d_jdk_33_22_21 : decode jdk_33_method_22_code 21 = .ok (.aaload, 1) := by decide +kernel
theorem d_jdk_33_22_22 : decode jdk_33_method_22_code 22 = .ok (.areturn, 1) := by decide +kernel
theorem ef_rm_iv (m : MethodId) (x0 : Addr) : entryFrame m #[(.ref x0)] 1 = mkF m 0 #[.val (.ref x0)] [] := by first | (simp [entryFrame, mkF, argsToLocals, Value.category]; done) | rfl
theorem d_jdk_33_27_0 : decode jdk_33_method_27_code 0 = .ok (.aload_n 0, 1) := by decide +kernel
theorem d_jdk_33_27_1 : decode jdk_33_method_27_code 1 = .ok (.getfield 205, 3) := by decide +kernel
theorem d_jdk_33_27_4 : decode jdk_33_method_27_code 4 = .ok (.ireturn, 1) := by decide +kernel
theorem ef_rm_rn (m : MethodId) (x0 : Addr) (x1 : Addr) : entryFrame m #[(.ref x0), (.ref x1)] 2 = mkF m 0 #[.val (.ref x0), .val (.ref x1)] [] := by first | (simp [entryFrame, mkF, argsToLocals, Value.category]; done) | rfl
theorem pn_3 : plainName "java/util/Objects" = true := by first | (simp [plainName, overriddenIn]; done) | decide +kernel
theorem d_jdk_31_11_0 : decode jdk_31_method_11_code 0 = .ok (.aload_n 0, 1) := by decide +kernel
theorem d_jdk_31_11_1 : decode jdk_31_method_11_code 1 = .ok (.ifnonnull 12, 3) := by decide +kernel
theorem d_jdk_31_11_13 : decode jdk_31_method_11_code 13 = .ok (.aload_n 0, 1) := by decide +kernel
theorem d_jdk_31_11_14 : decode jdk_31_method_11_code 14 = .ok (.areturn, 1) := by decide +kernel
theorem ef_rm_si (m : MethodId) (x0 : Addr) (x1 : Addr) (x2 : Addr) (x3 : Value) (x4 : Value) (x5 : Int32) (hx3 : x3.isRef = true) (hx4 : x4.isRef = true) : entryFrame m #[(.ref x0), (.ref x1), (.ref x2), x3, x4, (.int x5)] 6 = mkF m 0 #[.val (.ref x0), .val (.ref x1), .val (.ref x2), .val x3, .val x4, .val (.int x5)] [] := by rcases ref_cases hx3 with rfl | ⟨y3, rfl⟩ <;> rcases ref_cases hx4 with rfl | ⟨y4, rfl⟩ <;> first | (simp [entryFrame, mkF, argsToLocals, Value.category]; done) | rfl
theorem pn_4 : plainName "com/example/sentencia/sentencia/StatementAttributes" = true := by first | (simp [plainName, overriddenIn]; done) | decide +kernel
theorem d_prog_74_1_0 : decode prog_74_method_1_code 0 = .ok (.aload_n 0, 1) := by decide +kernel
theorem d_prog_74_1_1 : decode prog_74_method_1_code 1 = .ok (.invokespecial 1, 3) := by decide +kernel
theorem d_prog_74_1_4 : decode prog_74_method_1_code 4 = .ok (.aload_n 1, 1) := by decide +kernel
theorem d_prog_74_1_5 : decode prog_74_method_1_code 5 = .ok (.ldc 7, 2) := by decide +kernel
theorem d_prog_74_1_7 : decode prog_74_method_1_code 7 = .ok (.invokestatic 9, 3) := by decide +kernel
theorem pd_2 : parseMethodDescriptor "(Ljava/lang/Object;Ljava/lang/String;)Ljava/lang/Object;" = some ⟨[(.object "java/lang/Object"), (.object "java/lang/String")], some (.object "java/lang/Object")⟩ := by decide +kernel
theorem d_prog_74_1_10 : decode prog_74_method_1_code 10 = .ok (.pop, 1) := by decide +kernel
theorem d_prog_74_1_11 : decode prog_74_method_1_code 11 = .ok (.aload_n 2, 1) := by decide +kernel
theorem d_prog_74_1_12 : decode prog_74_method_1_code 12 = .ok (.ldc 15, 2) := by decide +kernel
theorem d_prog_74_1_14 : decode prog_74_method_1_code 14 = .ok (.invokestatic 9, 3) := by decide +kernel
theorem d_prog_74_1_17 : decode prog_74_method_1_code 17 = .ok (.pop, 1) := by decide +kernel
theorem d_prog_74_1_18 : decode prog_74_method_1_code 18 = .ok (.aload_n 0, 1) := by decide +kernel
theorem d_prog_74_1_19 : decode prog_74_method_1_code 19 = .ok (.aload_n 1, 1) := by decide +kernel
theorem d_prog_74_1_20 : decode prog_74_method_1_code 20 = .ok (.putfield 17, 3) := by decide +kernel
theorem d_prog_74_1_23 : decode prog_74_method_1_code 23 = .ok (.aload_n 0, 1) := by decide +kernel
theorem d_prog_74_1_24 : decode prog_74_method_1_code 24 = .ok (.aload_n 2, 1) := by decide +kernel
theorem d_prog_74_1_25 : decode prog_74_method_1_code 25 = .ok (.putfield 22, 3) := by decide +kernel
theorem d_prog_74_1_28 : decode prog_74_method_1_code 28 = .ok (.aload_n 0, 1) := by decide +kernel
theorem d_prog_74_1_29 : decode prog_74_method_1_code 29 = .ok (.aload_n 3, 1) := by decide +kernel
theorem d_prog_74_1_30 : decode prog_74_method_1_code 30 = .ok (.putfield 25, 3) := by decide +kernel
theorem d_prog_74_1_33 : decode prog_74_method_1_code 33 = .ok (.aload_n 0, 1) := by decide +kernel
theorem d_prog_74_1_34 : decode prog_74_method_1_code 34 = .ok (.aload 4, 2) := by decide +kernel
theorem d_prog_74_1_36 : decode prog_74_method_1_code 36 = .ok (.putfield 29, 3) := by decide +kernel
theorem d_prog_74_1_39 : decode prog_74_method_1_code 39 = .ok (.aload_n 0, 1) := by decide +kernel
theorem d_prog_74_1_40 : decode prog_74_method_1_code 40 = .ok (.iload 5, 2) := by decide +kernel
theorem d_prog_74_1_42 : decode prog_74_method_1_code 42 = .ok (.putfield 32, 3) := by decide +kernel
theorem d_prog_74_1_45 : decode prog_74_method_1_code 45 = .ok (.return_, 1) := by decide +kernel
theorem ef_rm_wf (m : MethodId) (x0 : Addr) (x1 : Int32) : entryFrame m #[(.ref x0), (.int x1)] 2 = mkF m 0 #[.val (.ref x0), .val (.int x1)] [] := by first | (simp [entryFrame, mkF, argsToLocals, Value.category]; done) | rfl
theorem d_prog_74_2_0 : decode prog_74_method_2_code 0 = .ok (.new 18, 3) := by decide +kernel
theorem d_prog_74_2_3 : decode prog_74_method_2_code 3 = .ok (.dup, 1) := by decide +kernel
theorem d_prog_74_2_4 : decode prog_74_method_2_code 4 = .ok (.aload_n 0, 1) := by decide +kernel
theorem d_prog_74_2_5 : decode prog_74_method_2_code 5 = .ok (.getfield 17, 3) := by decide +kernel
theorem d_prog_74_2_8 : decode prog_74_method_2_code 8 = .ok (.aload_n 0, 1) := by decide +kernel
theorem d_prog_74_2_9 : decode prog_74_method_2_code 9 = .ok (.getfield 22, 3) := by decide +kernel
theorem d_prog_74_2_12 : decode prog_74_method_2_code 12 = .ok (.iload_n 1, 1) := by decide +kernel
theorem d_prog_74_2_13 : decode prog_74_method_2_code 13 = .ok (.invokestatic 36, 3) := by decide +kernel
theorem pd_3 : parseMethodDescriptor "(I)Ljava/lang/Integer;" = some ⟨[.int], some (.object "java/lang/Integer")⟩ := by decide +kernel
theorem d_prog_74_2_16 : decode prog_74_method_2_code 16 = .ok (.aload_n 0, 1) := by decide +kernel
theorem d_prog_74_2_17 : decode prog_74_method_2_code 17 = .ok (.getfield 29, 3) := by decide +kernel
theorem d_prog_74_2_20 : decode prog_74_method_2_code 20 = .ok (.aload_n 0, 1) := by decide +kernel
theorem d_prog_74_2_21 : decode prog_74_method_2_code 21 = .ok (.getfield 32, 3) := by decide +kernel
theorem d_prog_74_2_24 : decode prog_74_method_2_code 24 = .ok (.invokespecial 42, 3) := by decide +kernel
theorem pd_4 : parseMethodDescriptor "(Lcom/example/sentencia/sentencia/StatementType;Lcom/example/sentencia/sentencia/ResultSetType;Ljava/lang/Integer;Ljava/lang/Integer;Z)V" = some ⟨[(.object "com/example/sentencia/sentencia/StatementType"), (.object "com/example/sentencia/sentencia/ResultSetType"), (.object "java/lang/Integer"), (.object "java/lang/Integer"), .boolean], none⟩ := by decide +kernel
theorem d_prog_74_2_27 : decode prog_74_method_2_code 27 = .ok (.areturn, 1) := by decide +kernel
theorem ef_rm_type (m : MethodId) (x0 : Addr) : entryFrame m #[(.ref x0)] 1 = mkF m 0 #[.val (.ref x0)] [] := by first | (simp [entryFrame, mkF, argsToLocals, Value.category]; done) | rfl
theorem d_prog_74_6_0 : decode prog_74_method_6_code 0 = .ok (.aload_n 0, 1) := by decide +kernel
theorem d_prog_74_6_1 : decode prog_74_method_6_code 1 = .ok (.getfield 17, 3) := by decide +kernel
theorem d_prog_74_6_4 : decode prog_74_method_6_code 4 = .ok (.areturn, 1) := by decide +kernel
theorem ef_rm_resultSetType (m : MethodId) (x0 : Addr) : entryFrame m #[(.ref x0)] 1 = mkF m 0 #[.val (.ref x0)] [] := by first | (simp [entryFrame, mkF, argsToLocals, Value.category]; done) | rfl
theorem d_prog_74_7_0 : decode prog_74_method_7_code 0 = .ok (.aload_n 0, 1) := by decide +kernel
theorem d_prog_74_7_1 : decode prog_74_method_7_code 1 = .ok (.getfield 22, 3) := by decide +kernel
theorem d_prog_74_7_4 : decode prog_74_method_7_code 4 = .ok (.areturn, 1) := by decide +kernel
theorem ef_rm_fetchSize (m : MethodId) (x0 : Addr) : entryFrame m #[(.ref x0)] 1 = mkF m 0 #[.val (.ref x0)] [] := by first | (simp [entryFrame, mkF, argsToLocals, Value.category]; done) | rfl
theorem d_prog_74_8_0 : decode prog_74_method_8_code 0 = .ok (.aload_n 0, 1) := by decide +kernel
theorem d_prog_74_8_1 : decode prog_74_method_8_code 1 = .ok (.getfield 25, 3) := by decide +kernel
theorem d_prog_74_8_4 : decode prog_74_method_8_code 4 = .ok (.areturn, 1) := by decide +kernel
theorem ef_rm_timeout (m : MethodId) (x0 : Addr) : entryFrame m #[(.ref x0)] 1 = mkF m 0 #[.val (.ref x0)] [] := by first | (simp [entryFrame, mkF, argsToLocals, Value.category]; done) | rfl
theorem d_prog_74_9_0 : decode prog_74_method_9_code 0 = .ok (.aload_n 0, 1) := by decide +kernel
theorem d_prog_74_9_1 : decode prog_74_method_9_code 1 = .ok (.getfield 29, 3) := by decide +kernel
theorem d_prog_74_9_4 : decode prog_74_method_9_code 4 = .ok (.areturn, 1) := by decide +kernel
theorem ef_rm_flushCache (m : MethodId) (x0 : Addr) : entryFrame m #[(.ref x0)] 1 = mkF m 0 #[.val (.ref x0)] [] := by first | (simp [entryFrame, mkF, argsToLocals, Value.category]; done) | rfl
theorem d_prog_74_10_0 : decode prog_74_method_10_code 0 = .ok (.aload_n 0, 1) := by decide +kernel
theorem d_prog_74_10_1 : decode prog_74_method_10_code 1 = .ok (.getfield 32, 3) := by decide +kernel
theorem d_prog_74_10_4 : decode prog_74_method_10_code 4 = .ok (.ireturn, 1) := by decide +kernel
theorem ef_rm_sm (m : MethodId) (x0 : Value) (x1 : Value) (hx0 : x0.isRef = true) (hx1 : x1.isRef = true) : entryFrame m #[x0, x1] 2 = mkF m 0 #[.val x0, .val x1] [] := by rcases ref_cases hx0 with rfl | ⟨y0, rfl⟩ <;> rcases ref_cases hx1 with rfl | ⟨y1, rfl⟩ <;> first | (simp [entryFrame, mkF, argsToLocals, Value.category]; done) | rfl
theorem pn_5 : plainName "com/example/sentencia/sentencia/StatementAttributesWithFetchSizePinLaw" = true := by first | (simp [plainName, overriddenIn]; done) | decide +kernel
theorem d_4_0 : decode method_4_code 0 = .ok (.aload_n 0, 1) := by decide +kernel
theorem d_4_1 : decode method_4_code 1 = .ok (.ifnonnull 13, 3) := by decide +kernel
theorem d_4_4 : decode method_4_code 4 = .ok (.aload_n 1, 1) := by decide +kernel
theorem d_4_5 : decode method_4_code 5 = .ok (.ifnonnull 7, 3) := by decide +kernel
theorem d_4_8 : decode method_4_code 8 = .ok (.iconst 1, 1) := by decide +kernel
theorem d_4_9 : decode method_4_code 9 = .ok (.goto 4, 3) := by decide +kernel
theorem d_4_13 : decode method_4_code 13 = .ok (.ireturn, 1) := by decide +kernel
theorem d_4_14 : decode method_4_code 14 = .ok (.aload_n 1, 1) := by decide +kernel
theorem d_4_15 : decode method_4_code 15 = .ok (.ifnull 18, 3) := by decide +kernel
theorem d_4_18 : decode method_4_code 18 = .ok (.aload_n 0, 1) := by decide +kernel
theorem d_4_19 : decode method_4_code 19 = .ok (.invokevirtual 35, 3) := by decide +kernel
theorem pd_5 : parseMethodDescriptor "()I" = some ⟨[], some .int⟩ := by decide +kernel
theorem d_4_22 : decode method_4_code 22 = .ok (.aload_n 1, 1) := by decide +kernel
theorem d_4_23 : decode method_4_code 23 = .ok (.invokevirtual 35, 3) := by decide +kernel
theorem d_4_26 : decode method_4_code 26 = .ok (.if_icmp .ne 7, 3) := by decide +kernel
theorem d_4_29 : decode method_4_code 29 = .ok (.iconst 1, 1) := by decide +kernel
theorem d_4_30 : decode method_4_code 30 = .ok (.goto 4, 3) := by decide +kernel
theorem d_4_34 : decode method_4_code 34 = .ok (.ireturn, 1) := by decide +kernel
theorem ef_rm_pt (m : MethodId) (x0 : Int32) : entryFrame m #[(.int x0)] 2 = mkF m 0 #[.val (.int x0), .unset] [] := by first | (simp [entryFrame, mkF, argsToLocals, Value.category]; done) | rfl
theorem d_2_0 : decode method_2_code 0 = .ok (.iload_n 0, 1) := by decide +kernel
theorem d_2_1 : decode method_2_code 1 = .ok (.ldc 7, 2) := by decide +kernel
theorem d_2_3 : decode method_2_code 3 = .ok (.iand, 1) := by decide +kernel
theorem d_2_4 : decode method_2_code 4 = .ok (.iconst 3, 1) := by decide +kernel
theorem d_2_5 : decode method_2_code 5 = .ok (.irem, 1) := by decide +kernel
theorem d_2_6 : decode method_2_code 6 = .ok (.istore_n 1, 1) := by decide +kernel
theorem d_2_7 : decode method_2_code 7 = .ok (.iload_n 1, 1) := by decide +kernel
theorem d_2_8 : decode method_2_code 8 = .ok (.ifCond .ne 7, 3) := by decide +kernel
theorem d_2_11 : decode method_2_code 11 = .ok (.getstatic 8, 3) := by decide +kernel
theorem d_2_14 : decode method_2_code 14 = .ok (.areturn, 1) := by decide +kernel
theorem d_2_15 : decode method_2_code 15 = .ok (.iload_n 1, 1) := by decide +kernel
theorem d_2_16 : decode method_2_code 16 = .ok (.iconst 1, 1) := by decide +kernel
theorem d_2_17 : decode method_2_code 17 = .ok (.if_icmp .ne 7, 3) := by decide +kernel
theorem d_2_20 : decode method_2_code 20 = .ok (.getstatic 14, 3) := by decide +kernel
theorem d_2_23 : decode method_2_code 23 = .ok (.areturn, 1) := by decide +kernel
theorem d_2_24 : decode method_2_code 24 = .ok (.getstatic 17, 3) := by decide +kernel
theorem d_2_27 : decode method_2_code 27 = .ok (.areturn, 1) := by decide +kernel
theorem ef_rm_pr (m : MethodId) (x0 : Int32) : entryFrame m #[(.int x0)] 2 = mkF m 0 #[.val (.int x0), .unset] [] := by first | (simp [entryFrame, mkF, argsToLocals, Value.category]; done) | rfl
theorem d_3_0 : decode method_3_code 0 = .ok (.iload_n 0, 1) := by decide +kernel
theorem d_3_1 : decode method_3_code 1 = .ok (.iconst 3, 1) := by decide +kernel
theorem d_3_2 : decode method_3_code 2 = .ok (.iand, 1) := by decide +kernel
theorem d_3_3 : decode method_3_code 3 = .ok (.istore_n 1, 1) := by decide +kernel
theorem d_3_4 : decode method_3_code 4 = .ok (.iload_n 1, 1) := by decide +kernel
theorem d_3_5 : decode method_3_code 5 = .ok (.ifCond .ne 7, 3) := by decide +kernel
theorem d_3_8 : decode method_3_code 8 = .ok (.getstatic 20, 3) := by decide +kernel
theorem d_3_11 : decode method_3_code 11 = .ok (.areturn, 1) := by decide +kernel
theorem d_3_12 : decode method_3_code 12 = .ok (.iload_n 1, 1) := by decide +kernel
theorem d_3_13 : decode method_3_code 13 = .ok (.iconst 1, 1) := by decide +kernel
theorem d_3_14 : decode method_3_code 14 = .ok (.if_icmp .ne 7, 3) := by decide +kernel
theorem d_3_17 : decode method_3_code 17 = .ok (.getstatic 26, 3) := by decide +kernel
theorem d_3_20 : decode method_3_code 20 = .ok (.areturn, 1) := by decide +kernel
theorem d_3_21 : decode method_3_code 21 = .ok (.iload_n 1, 1) := by decide +kernel
theorem d_3_22 : decode method_3_code 22 = .ok (.iconst 2, 1) := by decide +kernel
theorem d_3_23 : decode method_3_code 23 = .ok (.if_icmp .ne 7, 3) := by decide +kernel
theorem d_3_26 : decode method_3_code 26 = .ok (.getstatic 29, 3) := by decide +kernel
theorem d_3_29 : decode method_3_code 29 = .ok (.areturn, 1) := by decide +kernel
theorem d_3_30 : decode method_3_code 30 = .ok (.getstatic 32, 3) := by decide +kernel
theorem d_3_33 : decode method_3_code 33 = .ok (.areturn, 1) := by decide +kernel
theorem ef_rm_law (m : MethodId) (x0 : Int32) (x1 : Int32) (x2 : Int32) (x3 : Int32) (x4 : Int32) (x5 : Int32) : entryFrame m #[(.int x0), (.int x1), (.int x2), (.int x3), (.int x4), (.int x5)] maxLocals = mkF m 0 #[.val (.int x0), .val (.int x1), .val (.int x2), .val (.int x3), .val (.int x4), .val (.int x5), .unset, .unset, .unset, .unset, .unset, .unset, .unset, .unset, .unset, .unset, .unset] [] := by first | (simp [entryFrame, mkF, argsToLocals, Value.category, maxLocals]; done) | rfl
theorem pd_6 : parseMethodDescriptor "(I)Lcom/example/sentencia/sentencia/StatementType;" = some ⟨[.int], some (.object "com/example/sentencia/sentencia/StatementType")⟩ := by decide +kernel
theorem pd_7 : parseMethodDescriptor "(I)Lcom/example/sentencia/sentencia/ResultSetType;" = some ⟨[.int], some (.object "com/example/sentencia/sentencia/ResultSetType")⟩ := by decide +kernel
theorem pd_8 : parseMethodDescriptor "(I)Lcom/example/sentencia/sentencia/StatementAttributes;" = some ⟨[.int], some (.object "com/example/sentencia/sentencia/StatementAttributes")⟩ := by decide +kernel
theorem pd_9 : parseMethodDescriptor "()Ljava/lang/Integer;" = some ⟨[], some (.object "java/lang/Integer")⟩ := by decide +kernel
theorem pd_10 : parseMethodDescriptor "()Lcom/example/sentencia/sentencia/StatementType;" = some ⟨[], some (.object "com/example/sentencia/sentencia/StatementType")⟩ := by decide +kernel
theorem pd_11 : parseMethodDescriptor "()Lcom/example/sentencia/sentencia/ResultSetType;" = some ⟨[], some (.object "com/example/sentencia/sentencia/ResultSetType")⟩ := by decide +kernel
theorem pd_12 : parseMethodDescriptor "(Ljava/lang/Integer;Ljava/lang/Integer;)Z" = some ⟨[(.object "java/lang/Integer"), (.object "java/lang/Integer")], some .boolean⟩ := by decide +kernel
theorem pd_13 : parseMethodDescriptor "()Z" = some ⟨[], some .boolean⟩ := by decide +kernel
def ELx : List (String × Nat) := []
theorem own_hst {a0 : Array Value} {Z : State} (hw : ∀ d ∈ tables_1, d.before a0 Z = true) : ∀ a ∈ Bundle.stringAtoms, a.before a0 Z = true := fun a ha => hw a ((by decide +kernel : ∀ d ∈ Bundle.stringAtoms, d ∈ tables_1) a ha)
section OwnBox
variable {p : Program} {l : Launch} {e : Env} {R : Room} {s : State} {m : MethodId} {args : Array Value} {below : List Frame} {meth : Method} {c : Code} {Z : State} {EL : List (String × Nat)} {a0 : Array Value} {T : State} {h h' : Heap} {k n : Nat} {sf : List Addr} {w : Bool} {Φ : State → Prop}
def own_bx (Z : State) (h : Heap) (a : Addr) (x : Int32) : Prop := Exa Z h a "java/lang/Integer" ∧ Fld Z h a "java/lang/Integer" "value" "I" (.int x)
theorem own_bx.ext {a : Addr} {x : Int32} (B : own_bx Z h a x) (E : Ext h h') : own_bx Z h' a x := ⟨B.1.ext E, B.2.ext E⟩
theorem own_bx.keep {a : Addr} {x : Int32} {ws : List Addr} (B : own_bx Z h a x) (K : Keep h h' ws) (q : ∀ y ∈ ws, ∃ C, Exa Z h y C ∧ C ≠ "java/lang/Integer") : own_bx Z h' a x :=
  ⟨B.1.keep K, B.2.keep K fun hm => by obtain ⟨C, E, hn⟩ := q _ hm; exact ne_exa E B.1 hn rfl⟩
/-- null, or a box of an int -/
def own_ob (Z : State) (h : Heap) (v : Value) : Prop := v = .null ∨ ∃ a x, v = .ref a ∧ own_bx Z h a x
theorem own_ob.ref {v : Value} (B : own_ob Z h v) : v.isRef = true := by rcases B with rfl | ⟨a, x, rfl, -⟩ <;> rfl
theorem own_ob.ext {v : Value} (B : own_ob Z h v) (E : Ext h h') : own_ob Z h' v := B.imp id fun ⟨a, x, q, b⟩ => ⟨a, x, q, b.ext E⟩
theorem own_ob.keep {v : Value} {ws : List Addr} (B : own_ob Z h v) (K : Keep h h' ws) (q : ∀ y ∈ ws, ∃ C, Exa Z h y C ∧ C ≠ "java/lang/Integer") : own_ob Z h' v := B.imp id fun ⟨a, x, r, b⟩ => ⟨a, x, r, b.keep K q⟩
theorem own_aaBx (H : Wk p l e R s m args below meth c Z EL a0 w T h k n sf) (hx : p.tables.exec = Jvm.exec) {ca : Addr} {cl : Cell} {K0 d : String} {z j : Int32} {val : Int32 → Value} (BX : Bxs Z ca cl K0 d z val) (hj : ¬ j < 0 ∧ j < z) {g : JFrame} (hg : g.method = m) {rest : List Value} (hs : g.stack = .int j :: .ref ca :: rest) (hd : decode c.code g.pc = .ok (.aaload, 1))
    (K : ∀ b, Exa Z Z.heap b K0 → Fld Z Z.heap b K0 "value" d (val j) → Go p e below Φ T { g with pc := g.pc + 1, stack := .ref b :: rest }) : Go p e below Φ T g := by
  obtain ⟨hE, vm0, locs, k0, X, eT, r, hk, hZ, N, O, C, S⟩ := H
  have hin := inb_of BX.2.1 hj
  obtain ⟨b, e1, e2, e3⟩ := BX.2.2.2 j hin
  have A := (BX.ext O).1
  exact Go.of (X.aaload hx (by rw [eT]; exact A.1) (State.isArrayOf_alike hZ.alike A.2.1) rfl A.2.2 hin e1 hg hs hd) (K b e2 e3)
end OwnBox
theorem own_i127 {x : Int32} (h1 : ¬ x < (-128 : Int32)) (h2 : ¬ (127 : Int32) < x) : ¬ (x + (128 : Int32)) < 0 ∧ (x + (128 : Int32)) < 256 ∧ (x + (128 : Int32)) - 128 = x := by
  have c := c_iadd x 128
  have r := rng32 x
  have r2 := rng32 (x + 128)
  simp only [Int32.lt_iff_toInt_lt, Int32.reduceToInt] at *
  have e : (x + 128).toInt = x.toInt + 128 := by omega
  refine ⟨by omega, by omega, ?_⟩
  apply Int32.toInt_inj.mp
  have c2 := c_isub (x + 128) 128
  have r3 := rng32 (x + 128 - 128)
  simp only [Int32.reduceToInt] at c2
  omega
theorem own_nb01 {x : Int32} (h : x = 0 ∨ x = 1) : nar .boolean x = x := by rcases h with rfl | rfl <;> rfl
def own_pt (k : Int32) (w0 w1 w2 : Addr) : Addr := if ((k &&& (2147483647 : Int32)) % (3 : Int32)) = 0 then w0 else if ((k &&& (2147483647 : Int32)) % (3 : Int32)) = 1 then w1 else w2
def own_pr (k : Int32) (v0 v1 v2 v3 : Addr) : Addr := if (k &&& (3 : Int32)) = 0 then v0 else if (k &&& (3 : Int32)) = 1 then v1 else if (k &&& (3 : Int32)) = 2 then v2 else v3
theorem own_fldR {args : Array Value} {s : State} {t t2 : Term} {C n d : String} {x y : Addr} (ht : t.eval args s none [] s = some (.ref x)) (h2 : t2.eval args s none [] s = some (.ref y)) (q : (Jvm.Cond.eq (.field t C n d) t2).value args s none s [] = some true) : Fld s s.heap x C n d (.ref y) := by
  obtain ⟨a, b, e1, e2, k1, k2⟩ := cmp_v (Or.inl q)
  cases e2.symm.trans h2
  have ra : a.isRef = true := k2.2
  have hq := gotT (eq_R e1 h2 ra rfl) q
  subst hq
  rw [fld_at ht] at e1
  exact Fld.start e1
theorem own_fldI {args : Array Value} {s : State} {t : Term} {C n d : String} {x : Addr} {z : Int32} (ht : t.eval args s none [] s = some (.ref x)) (q : (Jvm.Cond.eq (.field t C n d) (.int z)).value args s none s [] = some true) : Fld s s.heap x C n d (.int z) := by
  obtain ⟨a, b, e1, e2, k1, k2⟩ := cmp_v (Or.inl q)
  cases e2.symm.trans (Term.int_eval z)
  obtain ⟨y, rfl⟩ := k2
  have hq := gotT (Cond.eq_ints e1 (Term.int_eval z)) q
  subst hq
  rw [fld_at ht] at e1
  exact Fld.start e1
theorem own_bxs0 {s : State} {args : Array Value} {t : Term} {ca : Addr} {cl : Cell} (et : ∀ idx, t.eval args s none idx s = some (.ref ca)) (A : Arr s s.heap ca cl (.object "java/lang/Integer")) (hl : (Jvm.Cond.eq (.length t) (.int (256 : Int32))).value args s none s [] = some true)
    (ha : (Jvm.Cond.all t (.and (.exactly (.elem t (.index 0)) "java/lang/Integer") (.eq (.field (.elem t (.index 0)) "java/lang/Integer" "value" "I") (.sub (.index 0) (.int (128 : Int32)))))).value args s none s [] = some true) :
    Bxs s ca cl "java/lang/Integer" "I" 256 (fun j => .int (j - 128)) := by
  have el := eqv_i (Term.int_eval 256) hl
  have fa := A.fin (Vm.Alike.refl _)
  have q : cl.slots.size < 2 ^ 31 ∧ cl.slots.size.toInt32 = (256 : Int32) := by
    by_cases hh : cl.slots.size < 2 ^ 31
    · rw [len_f (et []) fa hh] at el
      exact ⟨hh, Value.int.inj (Option.some.inj el)⟩
    · have e0 := et []
      simp [Term.eval, e0, fa] at el
      omega
  refine Bxs.start et A q.1 q.2 (by decide) ha ?_
  intro X j hj hq
  refine eqv_i ?_ hq
  have e1 : (Term.index 0).eval args s none [j.toNatClampNeg] s = some (.int j) := idx_at hj
  have e2 : (Term.int (128 : Int32)).eval args s none [j.toNatClampNeg] s = some (.int 128) := Term.int_eval 128
  generalize Term.index 0 = X1 at e1
  generalize Term.int (128 : Int32) = X2 at e2
  simp [Term.eval, e1, e2]
theorem own_bxs {s : State} {args : Array Value} {ca : Addr} {cl : Cell} {C n d : String} (et : (Term.static C n d).eval args s none [] s = some (.ref ca)) (A : Arr s s.heap ca cl (.object "java/lang/Integer")) (hl : (Jvm.Cond.eq (.length (.static C n d)) (.int (256 : Int32))).value args s none s [] = some true)
    (ha : (Jvm.Cond.all (.static C n d) (.and (.exactly (.elem (.static C n d) (.index 0)) "java/lang/Integer") (.eq (.field (.elem (.static C n d) (.index 0)) "java/lang/Integer" "value" "I") (.sub (.index 0) (.int (128 : Int32)))))).value args s none s [] = some true) :
    Bxs s ca cl "java/lang/Integer" "I" 256 (fun j => .int (j - 128)) := own_bxs0 (fun _ => et) A hl ha
set_option maxRecDepth 65536 in
set_option maxHeartbeats 40000000 in
theorem rm_num (l : Launch) (Z : State) (a0 : Array Value) (hw : ∀ d ∈ tables_1, d.before a0 Z = true) (hE : EW Z a0 ELx) (a1 : Addr) (h0 : Heap) (O0 : Ext Z.heap h0) :
    Ct l Z ELx a0 true (⟨"java/lang/Number", "<init>", "()V"⟩ : MethodName) jdk_18_method_1_code 1 none [] ({ frames := 1, cells := 0, slots := 0, locals := 12 } : Room) #[(.ref a1)] h0 [] (fun v h => v = none ∧ h0 = h) := by
  refine own_enter (plainFor_of_name pn_0) hE O0 ?_
  intro p e s m below meth c s₁ hx hby hml hown hnm hret hlk H0
  refine Go.eq (ef_rm_num m a1) ?_
  show Go p e below _ s₁ (mkF m 0 #[.val (.ref a1)] [])
  refine Go.of (fun _ => XS.aloadN H0.here hx rfl (hb hby d_jdk_18_1_0) rfl rfl) ?_
  show Go p e below _ s₁ (mkF m 1 #[.val (.ref a1)] [(.ref a1)])
  refine own_initO H0 hx hown (ow hw 121 rfl) (ow hw 26 rfl) (ow hw 27 rfl) rfl (by rw [hml]; rfl) rfl (hb hby d_jdk_18_1_1) (by decide) (W := 0) (by show 2 * 0 + _ ≤ _; exact Nat.le_of_eq rfl) (by decide) fun T1 H2 => ?_
  show Go p e below _ T1 (mkF m 4 #[.val (.ref a1)] [])
  exact own_ret H2 hx hlk hret (hb hby d_jdk_18_1_4) ⟨rfl, rfl⟩ (by decide) (by decide)
set_option maxRecDepth 65536 in
set_option maxHeartbeats 40000000 in
theorem rm_rec (l : Launch) (Z : State) (a0 : Array Value) (hw : ∀ d ∈ tables_1, d.before a0 Z = true) (hE : EW Z a0 ELx) (a1 : Addr) (h0 : Heap) (O0 : Ext Z.heap h0) :
    Ct l Z ELx a0 true (⟨"java/lang/Record", "<init>", "()V"⟩ : MethodName) jdk_30_method_1_code 1 none [] ({ frames := 1, cells := 0, slots := 0, locals := 12 } : Room) #[(.ref a1)] h0 [] (fun v h => v = none ∧ h0 = h) := by
  refine own_enter (plainFor_of_name pn_1) hE O0 ?_
  intro p e s m below meth c s₁ hx hby hml hown hnm hret hlk H0
  refine Go.eq (ef_rm_rec m a1) ?_
  show Go p e below _ s₁ (mkF m 0 #[.val (.ref a1)] [])
  refine Go.of (fun _ => XS.aloadN H0.here hx rfl (hb hby d_jdk_30_1_0) rfl rfl) ?_
  show Go p e below _ s₁ (mkF m 1 #[.val (.ref a1)] [(.ref a1)])
  refine own_initO H0 hx hown (ow hw 25 rfl) (ow hw 26 rfl) (ow hw 27 rfl) rfl (by rw [hml]; rfl) rfl (hb hby d_jdk_30_1_1) (by decide) (W := 0) (by show 2 * 0 + _ ≤ _; exact Nat.le_of_eq rfl) (by decide) fun T1 H2 => ?_
  show Go p e below _ T1 (mkF m 4 #[.val (.ref a1)] [])
  exact own_ret H2 hx hlk hret (hb hby d_jdk_30_1_4) ⟨rfl, rfl⟩ (by decide) (by decide)
set_option maxRecDepth 65536 in
set_option maxHeartbeats 40000000 in
theorem rm_ii (l : Launch) (Z : State) (a0 : Array Value) (hw : ∀ d ∈ tables_1, d.before a0 Z = true) (hE : EW Z a0 ELx) (a1 : Addr) (p1 : Int32) (h0 : Heap) (O0 : Ext Z.heap h0) (E1 : Exa Z h0 a1 "java/lang/Integer") (F1 : Fld Z h0 a1 "java/lang/Integer" "value" "I" (.int 0)) (g1 : Z.heap.size ≤ a1) :
    Ct l Z ELx a0 true (⟨"java/lang/Integer", "<init>", "(I)V"⟩ : MethodName) jdk_33_method_23_code 2 none [] ({ frames := 2, cells := 0, slots := 0, locals := 24 } : Room) #[(.ref a1), (.int p1)] h0 [] (fun v h => v = none ∧ Keep h0 h [a1] ∧ own_bx Z h a1 p1) := by
  refine own_enter (plainFor_of_name pn_2) hE O0 ?_
  intro p e s m below meth c s₁ hx hby hml hown hnm hret hlk H0
  refine Go.eq (ef_rm_ii m a1 p1) ?_
  have K1 : Keep h0 h0 [a1] := Keep.refl _ _
  show Go p e below _ s₁ (mkF m 0 #[.val (.ref a1), .val (.int p1)] [])
  refine Go.of (fun _ => XS.aloadN H0.here hx rfl (hb hby d_jdk_33_23_0) rfl rfl) ?_
  show Go p e below _ s₁ (mkF m 1 #[.val (.ref a1), .val (.int p1)] [(.ref a1)])
  refine own_specialW H0 hx (y := (⟨"java/lang/Number", "<init>", "()V"⟩ : MethodName)) rfl hown (ow hw 115 rfl) (ow hw 116 rfl) (ow hw 119 rfl) (ow hw 120 rfl) (by decide) (W := 0) (rm_num l Z a0 hw hE a1 h0 H0.old) (fun _ hq => nomatch hq) (by decide) (by decide) rfl (by rw [hml]; rfl) (a := a1) (argsL := []) (rest := []) rfl (lenOf pd_0 rfl) rfl (by show 2 * 0 + _ ≤ _; exact Nat.le_of_eq rfl) (hb hby d_jdk_33_23_1) (by decide) (by decide) fun T2 h4 v6 H3 hs7 q5 => ?_
  obtain ⟨ve9, e8⟩ := q5
  subst e8
  subst ve9
  show Go p e below _ T2 (mkF m 4 #[.val (.ref a1), .val (.int p1)] [])
  refine Go.of (fun _ => XS.aloadN H3.here hx rfl (hb hby d_jdk_33_23_4) rfl rfl) ?_
  show Go p e below _ T2 (mkF m 5 #[.val (.ref a1), .val (.int p1)] [(.ref a1)])
  refine Go.of (fun _ => XS.iloadN H3.here hx rfl (hb hby d_jdk_33_23_5) rfl) ?_
  show Go p e below _ T2 (mkF m 6 #[.val (.ref a1), .val (.int p1)] [(.int p1), (.ref a1)])
  refine own_putF H3 hx hown (host := "") (Or.inl (ow hw 75 rfl)) Via.refl F1 E1 (Or.inr ⟨(ow hw 76 rfl), rfl, hnm⟩) (ow hw 110 rfl) (ty := .int) (by decide) rfl rfl g1 (own_exa E1) rfl rfl (hb hby d_jdk_33_23_6) fun T10 h12 H11 W13 => ?_
  have K14 : Keep h0 h12 [a1] := K1.wr W13 (Or.inl (List.mem_of_getElem? (i := 0) rfl))
  have f15 := E1.wr W13
  have f16 := F1.same W13
  show Go p e below _ T10 (mkF m 9 #[.val (.ref a1), .val (.int p1)] [])
  exact own_ret H11 hx hlk hret (hb hby d_jdk_33_23_9) ⟨rfl, K14, f15, f16⟩ (by decide) (by decide)
set_option maxRecDepth 65536 in
set_option maxHeartbeats 40000000 in
theorem rm_vo (l : Launch) (Z : State) (a0 : Array Value) (hw : ∀ d ∈ tables_1, d.before a0 Z = true) (hE : EW Z a0 ELx) (p1 : Int32) (ca : Addr) (cl : Cell) (h0 : Heap) (O0 : Ext Z.heap h0) (SH : Sta Z Z.heap "java/lang/Integer$IntegerCache" "high" "I" (.int 127)) (SCa : Sta Z Z.heap "java/lang/Integer$IntegerCache" "cache" "[Ljava/lang/Integer;" (.ref ca)) (BX : Bxs Z ca cl "java/lang/Integer" "I" 256 (fun j => .int (j - 128))) :
    Ct l Z ELx a0 true (⟨"java/lang/Integer", "valueOf", "(I)Ljava/lang/Integer;"⟩ : MethodName) jdk_33_method_22_code 1 (some (.object "java/lang/Integer")) [] ({ frames := 3, cells := 1, slots := 1, locals := 39 } : Room) #[(.int p1)] h0 [] (fun v h => ∃ a, v = some (.ref a) ∧ Keep h0 h [] ∧ own_bx Z h a p1) := by
  refine own_enter (plainFor_of_name pn_2) hE O0 ?_
  intro p e s m below meth c s₁ hx hby hml hown hnm hret hlk H0
  refine Go.eq (ef_rm_vo m p1) ?_
  have K1 : Keep h0 h0 [] := Keep.refl _ _
  show Go p e below _ s₁ (mkF m 0 #[.val (.int p1)] [])
  refine Go.of (fun _ => XS.iloadN H0.here hx rfl (hb hby d_jdk_33_22_0) rfl) ?_
  show Go p e below _ s₁ (mkF m 1 #[.val (.int p1)] [(.int p1)])
  refine Go.of (fun _ => XS.bipush H0.here hx rfl (hb hby d_jdk_33_22_1)) ?_
  show Go p e below _ s₁ (mkF m 3 #[.val (.int p1)] [(.int (-128 : Int32)), (.int p1)])
  by_cases hc2 : p1 < (-128 : Int32)
  · skip
    refine Go.of (fun _ => XS.icmpYes H0.here hx rfl (pc0 := 3) (pc' := 23) rfl (hb hby d_jdk_33_22_3) rfl (tlt hc2).1 (by decide) (by decide)) ?_
    show Go p e below _ s₁ (mkF m 23 #[.val (.int p1)] [])
    refine own_new H0 hx hown (ow hw 109 rfl) (ow hw 110 rfl) (ow hw 59 rfl) rfl (hb hby d_jdk_33_22_23) (by decide) (by decide) fun T3 h5 b6 g7 H4 E8 A9 D10 => ?_
    have fr11 : Z.heap.size ≤ b6 := by rw [g7]; exact H0.old.1
    have sz12 : h0.size ≤ b6 := by rw [g7]; exact K1.1
    have K13 : Keep h0 h5 [] := K1.ext E8
    have f14 : Fld Z h5 b6 "java/lang/Integer" "value" "I" (.int (0 : Int32)) := D10 (Or.inr (ow hw 76 rfl)) (ty := .int) (by decide)
    show Go p e below _ T3 (mkF m 26 #[.val (.int p1)] [(.ref b6)])
    refine Go.of (fun _ => XS.dup H4.here hx rfl (hb hby d_jdk_33_22_26) rfl rfl) ?_
    show Go p e below _ T3 (mkF m 27 #[.val (.int p1)] [(.ref b6), (.ref b6)])
    refine Go.of (fun _ => XS.iloadN H4.here hx rfl (hb hby d_jdk_33_22_27) rfl) ?_
    show Go p e below _ T3 (mkF m 28 #[.val (.int p1)] [(.int p1), (.ref b6), (.ref b6)])
    refine own_specialW H4 hx (y := (⟨"java/lang/Integer", "<init>", "(I)V"⟩ : MethodName)) rfl hown (ow hw 111 rfl) (ow hw 112 rfl) (ow hw 59 rfl) (ow hw 114 rfl) (by decide) (W := 1) (rm_ii l Z a0 hw hE b6 p1 h5 H4.old A9 f14 fr11) (fun _ hq => nomatch hq) (by decide) (by decide) rfl (by rw [hml]; rfl) (a := b6) (argsL := [(.int p1)]) (rest := [(.ref b6)]) rfl (lenOf pd_1 rfl) rfl (by show 2 * 0 + _ ≤ _; exact Nat.le_of_eq rfl) (hb hby d_jdk_33_22_28) (by decide) (by decide) fun T15 h17 v19 H16 hs20 q18 => ?_
    obtain ⟨rfl, KK, BB⟩ := q18
    have K21 : Keep h0 h17 [] := K13.trans KK (allS (Or.inr sz12) all0)
    show Go p e below _ T15 (mkF m 31 #[.val (.int p1)] [(.ref b6)])
    exact own_retA H16 hx hlk hret rfl rfl (hb hby d_jdk_33_22_31) ⟨b6, rfl, K21, BB⟩ (by decide) (by decide)
  · skip
    refine Go.of (fun _ => XS.icmpNo H0.here hx rfl (hb hby d_jdk_33_22_3) rfl (flt hc2).1) ?_
    show Go p e below _ s₁ (mkF m 6 #[.val (.int p1)] [])
    refine Go.of (fun _ => XS.iloadN H0.here hx rfl (hb hby d_jdk_33_22_6) rfl) ?_
    show Go p e below _ s₁ (mkF m 7 #[.val (.int p1)] [(.int p1)])
    refine own_getS H0 hx hown (host := "") (Or.inl (ow hw 61 rfl)) Via.refl SH rfl (hb hby d_jdk_33_22_7) fun T22 H23 => ?_
    show Go p e below _ T22 (mkF m 10 #[.val (.int p1)] [(.int (127 : Int32)), (.int p1)])
    by_cases hc24 : (127 : Int32) < p1
    · skip
      refine Go.of (fun _ => XS.icmpYes H23.here hx rfl (pc0 := 10) (pc' := 23) rfl (hb hby d_jdk_33_22_10) rfl (tlt hc24).2.2.1 (by decide) (by decide)) ?_
      show Go p e below _ T22 (mkF m 23 #[.val (.int p1)] [])
      refine own_new H23 hx hown (ow hw 109 rfl) (ow hw 110 rfl) (ow hw 59 rfl) rfl (hb hby d_jdk_33_22_23) (by decide) (by decide) fun T25 h27 b28 g29 H26 E30 A31 D32 => ?_
      have fr33 : Z.heap.size ≤ b28 := by rw [g29]; exact H23.old.1
      have sz34 : h0.size ≤ b28 := by rw [g29]; exact K1.1
      have K35 : Keep h0 h27 [] := K1.ext E30
      have f36 : Fld Z h27 b28 "java/lang/Integer" "value" "I" (.int (0 : Int32)) := D32 (Or.inr (ow hw 76 rfl)) (ty := .int) (by decide)
      show Go p e below _ T25 (mkF m 26 #[.val (.int p1)] [(.ref b28)])
      refine Go.of (fun _ => XS.dup H26.here hx rfl (hb hby d_jdk_33_22_26) rfl rfl) ?_
      show Go p e below _ T25 (mkF m 27 #[.val (.int p1)] [(.ref b28), (.ref b28)])
      refine Go.of (fun _ => XS.iloadN H26.here hx rfl (hb hby d_jdk_33_22_27) rfl) ?_
      show Go p e below _ T25 (mkF m 28 #[.val (.int p1)] [(.int p1), (.ref b28), (.ref b28)])
      refine own_specialW H26 hx (y := (⟨"java/lang/Integer", "<init>", "(I)V"⟩ : MethodName)) rfl hown (ow hw 111 rfl) (ow hw 112 rfl) (ow hw 59 rfl) (ow hw 114 rfl) (by decide) (W := 1) (rm_ii l Z a0 hw hE b28 p1 h27 H26.old A31 f36 fr33) (fun _ hq => nomatch hq) (by decide) (by decide) rfl (by rw [hml]; rfl) (a := b28) (argsL := [(.int p1)]) (rest := [(.ref b28)]) rfl (lenOf pd_1 rfl) rfl (by show 2 * 0 + _ ≤ _; exact Nat.le_of_eq rfl) (hb hby d_jdk_33_22_28) (by decide) (by decide) fun T37 h39 v41 H38 hs42 q40 => ?_
      obtain ⟨rfl, KK, BB⟩ := q40
      have K43 : Keep h0 h39 [] := K35.trans KK (allS (Or.inr sz34) all0)
      show Go p e below _ T37 (mkF m 31 #[.val (.int p1)] [(.ref b28)])
      exact own_retA H38 hx hlk hret rfl rfl (hb hby d_jdk_33_22_31) ⟨b28, rfl, K43, BB⟩ (by decide) (by decide)
    · skip
      refine Go.of (fun _ => XS.icmpNo H23.here hx rfl (hb hby d_jdk_33_22_10) rfl (flt hc24).2.2.1) ?_
      show Go p e below _ T22 (mkF m 13 #[.val (.int p1)] [])
      refine own_getS H23 hx hown (host := "") (Or.inl (ow hw 63 rfl)) Via.refl SCa rfl (hb hby d_jdk_33_22_13) fun T44 H45 => ?_
      show Go p e below _ T44 (mkF m 16 #[.val (.int p1)] [(.ref ca)])
      refine Go.of (fun _ => XS.iloadN H45.here hx rfl (hb hby d_jdk_33_22_16) rfl) ?_
      show Go p e below _ T44 (mkF m 17 #[.val (.int p1)] [(.int p1), (.ref ca)])
      refine Go.of (fun _ => XS.sipush H45.here hx rfl (hb hby d_jdk_33_22_17)) ?_
      show Go p e below _ T44 (mkF m 20 #[.val (.int p1)] [(.int (128 : Int32)), (.int p1), (.ref ca)])
      refine Go.of (fun _ => XS.iadd H45.here hx rfl (hb hby d_jdk_33_22_20) rfl) ?_
      show Go p e below _ T44 (mkF m 21 #[.val (.int p1)] [(.int (p1 + (128 : Int32))), (.ref ca)])
      refine own_aaBx H45 hx BX ⟨(own_i127 hc2 hc24).1, (own_i127 hc2 hc24).2.1⟩ rfl rfl (hb hby d_jdk_33_22_21) fun bb EB FB => ?_
      show Go p e below _ T44 (mkF m 22 #[.val (.int p1)] [(.ref bb)])
      exact own_retA H45 hx hlk hret rfl rfl (hb hby d_jdk_33_22_22) ⟨bb, rfl, K1, ⟨EB.ext H45.old, by rw [← (own_i127 hc2 hc24).2.2]; exact FB.ext H45.old⟩⟩ (by decide) (by decide)
set_option maxRecDepth 65536 in
set_option maxHeartbeats 40000000 in
theorem rm_iv (l : Launch) (Z : State) (a0 : Array Value) (hw : ∀ d ∈ tables_1, d.before a0 Z = true) (hE : EW Z a0 ELx) (a1 : Addr) (x1 : Int32) (h0 : Heap) (O0 : Ext Z.heap h0) (F1 : Fld Z h0 a1 "java/lang/Integer" "value" "I" (.int x1)) :
    Ct l Z ELx a0 true (⟨"java/lang/Integer", "intValue", "()I"⟩ : MethodName) jdk_33_method_27_code 1 (some .int) [] ({ frames := 0, cells := 0, slots := 0, locals := 0 } : Room) #[(.ref a1)] h0 [] (fun v h => v = some (.int x1) ∧ h0 = h) := by
  refine own_enter (plainFor_of_name pn_2) hE O0 ?_
  intro p e s m below meth c s₁ hx hby hml hown hnm hret hlk H0
  refine Go.eq (ef_rm_iv m a1) ?_
  show Go p e below _ s₁ (mkF m 0 #[.val (.ref a1)] [])
  refine Go.of (fun _ => XS.aloadN H0.here hx rfl (hb hby d_jdk_33_27_0) rfl rfl) ?_
  show Go p e below _ s₁ (mkF m 1 #[.val (.ref a1)] [(.ref a1)])
  refine own_getF H0 hx hown (host := "") (Or.inl (ow hw 75 rfl)) Via.refl F1 rfl rfl (hb hby d_jdk_33_27_1) fun T1 H2 => ?_
  show Go p e below _ T1 (mkF m 4 #[.val (.ref a1)] [(.int x1)])
  exact own_retI H2 hx hlk hret (hb hby d_jdk_33_27_4) ⟨rfl, rfl⟩ (by decide) (by decide)
set_option maxRecDepth 65536 in
set_option maxHeartbeats 40000000 in
theorem rm_rn (l : Launch) (Z : State) (a0 : Array Value) (hw : ∀ d ∈ tables_1, d.before a0 Z = true) (hE : EW Z a0 ELx) (a1 : Addr) (b1 : Addr) (h0 : Heap) (O0 : Ext Z.heap h0) :
    Ct l Z ELx a0 true (⟨"java/util/Objects", "requireNonNull", "(Ljava/lang/Object;Ljava/lang/String;)Ljava/lang/Object;"⟩ : MethodName) jdk_31_method_11_code 2 (some (.object "java/lang/Object")) [] ({ frames := 0, cells := 0, slots := 0, locals := 0 } : Room) #[(.ref a1), (.ref b1)] h0 [] (fun v h => v = some (.ref a1) ∧ h0 = h) := by
  refine own_enter (plainFor_of_name pn_3) hE O0 ?_
  intro p e s m below meth c s₁ hx hby hml hown hnm hret hlk H0
  refine Go.eq (ef_rm_rn m a1 b1) ?_
  show Go p e below _ s₁ (mkF m 0 #[.val (.ref a1), .val (.ref b1)] [])
  refine Go.of (fun _ => XS.aloadN H0.here hx rfl (hb hby d_jdk_31_11_0) rfl rfl) ?_
  show Go p e below _ s₁ (mkF m 1 #[.val (.ref a1), .val (.ref b1)] [(.ref a1)])
  refine Go.of (fun _ => XS.ifnonnullYes H0.here hx rfl (pc0 := 1) (pc' := 13) rfl (hb hby d_jdk_31_11_1) rfl (by decide) (by decide)) ?_
  show Go p e below _ s₁ (mkF m 13 #[.val (.ref a1), .val (.ref b1)] [])
  refine Go.of (fun _ => XS.aloadN H0.here hx rfl (hb hby d_jdk_31_11_13) rfl rfl) ?_
  show Go p e below _ s₁ (mkF m 14 #[.val (.ref a1), .val (.ref b1)] [(.ref a1)])
  exact own_retA H0 hx hlk hret rfl rfl (hb hby d_jdk_31_11_14) ⟨rfl, rfl⟩ (by decide) (by decide)
set_option maxRecDepth 65536 in
set_option maxHeartbeats 40000000 in
theorem rm_si (l : Launch) (Z : State) (a0 : Array Value) (hw : ∀ d ∈ tables_1, d.before a0 Z = true) (hE : EW Z a0 ELx) (a1 : Addr) (t1 : Addr) (r1 : Addr) (f1 : Value) (o1 : Value) (fl : Int32) (h0 : Heap) (O0 : Ext Z.heap h0) (hf1 : f1.isRef = true) (ho1 : o1.isRef = true) (hfl : fl = 0 ∨ fl = 1) (E1 : Exa Z h0 a1 "com/example/sentencia/sentencia/StatementAttributes") (F0 : Fld Z h0 a1 "com/example/sentencia/sentencia/StatementAttributes" "type" "Lcom/example/sentencia/sentencia/StatementType;" .null) (F1 : Fld Z h0 a1 "com/example/sentencia/sentencia/StatementAttributes" "resultSetType" "Lcom/example/sentencia/sentencia/ResultSetType;" .null) (F2 : Fld Z h0 a1 "com/example/sentencia/sentencia/StatementAttributes" "fetchSize" "Ljava/lang/Integer;" .null) (F3 : Fld Z h0 a1 "com/example/sentencia/sentencia/StatementAttributes" "timeout" "Ljava/lang/Integer;" .null) (F4 : Fld Z h0 a1 "com/example/sentencia/sentencia/StatementAttributes" "flushCache" "Z" (.int (0 : Int32))) (g1 : Z.heap.size ≤ a1) :
    Ct l Z ELx a0 true (⟨"com/example/sentencia/sentencia/StatementAttributes", "<init>", "(Lcom/example/sentencia/sentencia/StatementType;Lcom/example/sentencia/sentencia/ResultSetType;Ljava/lang/Integer;Ljava/lang/Integer;Z)V"⟩ : MethodName) prog_74_method_1_code 6 none [] ({ frames := 2, cells := 4, slots := 76, locals := 24 } : Room) #[(.ref a1), (.ref t1), (.ref r1), f1, o1, (.int fl)] h0 [] (fun v h => v = none ∧ Keep h0 h [a1] ∧ Exa Z h a1 "com/example/sentencia/sentencia/StatementAttributes" ∧ Fld Z h a1 "com/example/sentencia/sentencia/StatementAttributes" "type" "Lcom/example/sentencia/sentencia/StatementType;" (.ref t1) ∧ Fld Z h a1 "com/example/sentencia/sentencia/StatementAttributes" "resultSetType" "Lcom/example/sentencia/sentencia/ResultSetType;" (.ref r1) ∧ Fld Z h a1 "com/example/sentencia/sentencia/StatementAttributes" "fetchSize" "Ljava/lang/Integer;" f1 ∧ Fld Z h a1 "com/example/sentencia/sentencia/StatementAttributes" "timeout" "Ljava/lang/Integer;" o1 ∧ Fld Z h a1 "com/example/sentencia/sentencia/StatementAttributes" "flushCache" "Z" (.int fl)) := by
  refine own_enter (plainFor_of_name pn_4) hE O0 ?_
  intro p e s m below meth c s₁ hx hby hml hown hnm hret hlk H0
  refine Go.eq (ef_rm_si m a1 t1 r1 f1 o1 fl hf1 ho1) ?_
  have K1 : Keep h0 h0 [a1] := Keep.refl _ _
  have hst := own_hst hw
  show Go p e below _ s₁ (mkF m 0 #[.val (.ref a1), .val (.ref t1), .val (.ref r1), .val f1, .val o1, .val (.int fl)] [])
  refine Go.of (fun _ => XS.aloadN H0.here hx rfl (hb hby d_prog_74_1_0) rfl rfl) ?_
  show Go p e below _ s₁ (mkF m 1 #[.val (.ref a1), .val (.ref t1), .val (.ref r1), .val f1, .val o1, .val (.int fl)] [(.ref a1)])
  refine own_specialW H0 hx (y := (⟨"java/lang/Record", "<init>", "()V"⟩ : MethodName)) rfl hown (ow hw 20 rfl) (ow hw 21 rfl) (ow hw 23 rfl) (ow hw 24 rfl) (by decide) (W := 0) (rm_rec l Z a0 hw hE a1 h0 H0.old) (fun _ hq => nomatch hq) (by decide) (by decide) rfl (by rw [hml]; rfl) (a := a1) (argsL := []) (rest := []) rfl (lenOf pd_0 rfl) rfl (by show 2 * 0 + _ ≤ _; exact Nat.le_of_eq rfl) (hb hby d_prog_74_1_1) (by decide) (by decide) fun T2 h4 v6 H3 hs7 q5 => ?_
  obtain ⟨ve9, e8⟩ := q5
  subst e8
  subst ve9
  show Go p e below _ T2 (mkF m 4 #[.val (.ref a1), .val (.ref t1), .val (.ref r1), .val f1, .val o1, .val (.int fl)] [])
  refine Go.of (fun _ => XS.aloadN H3.here hx rfl (hb hby d_prog_74_1_4) rfl rfl) ?_
  show Go p e below _ T2 (mkF m 5 #[.val (.ref a1), .val (.ref t1), .val (.ref r1), .val f1, .val o1, .val (.int fl)] [(.ref t1)])
  refine own_ldcO H3 hx hown (ow hw 28 rfl) hst rfl (hb hby d_prog_74_1_5) (nn := 16) (by decide) (by decide) (by decide) (by decide) fun T10 h12 a14 H11 E13 => ?_
  have K15 : Keep h0 h12 [a1] := K1.ext E13
  have f16 := E1.ext E13
  have f17 := F0.ext E13
  have f18 := F1.ext E13
  have f19 := F2.ext E13
  have f20 := F3.ext E13
  have f21 := F4.ext E13
  show Go p e below _ T10 (mkF m 7 #[.val (.ref a1), .val (.ref t1), .val (.ref r1), .val f1, .val o1, .val (.int fl)] [(.ref a14), (.ref t1)])
  refine own_staticW H11 hx (y := (⟨"java/util/Objects", "requireNonNull", "(Ljava/lang/Object;Ljava/lang/String;)Ljava/lang/Object;"⟩ : MethodName)) hown (ow hw 36 rfl) (ow hw 37 rfl) (ow hw 38 rfl) (ow hw 39 rfl) (by decide) (W := 0) (rm_rn l Z a0 hw hE t1 a14 h12 H11.old) (fun _ hq => nomatch hq) (by decide) (by decide) rfl (by rw [hml]; rfl) (argsL := [(.ref t1), (.ref a14)]) (rest := []) rfl (lenOf pd_2 rfl) rfl (by show 2 * 0 + _ ≤ _; exact Nat.le_of_eq rfl) (hb hby d_prog_74_1_7) (by decide) (by decide) fun T22 h24 v26 H23 hs27 q25 => ?_
  obtain ⟨ve29, e28⟩ := q25
  subst e28
  subst ve29
  show Go p e below _ T22 (mkF m 10 #[.val (.ref a1), .val (.ref t1), .val (.ref r1), .val f1, .val o1, .val (.int fl)] [(.ref t1)])
  refine Go.of (fun _ => XS.pop H23.here hx rfl (hb hby d_prog_74_1_10) rfl rfl) ?_
  show Go p e below _ T22 (mkF m 11 #[.val (.ref a1), .val (.ref t1), .val (.ref r1), .val f1, .val o1, .val (.int fl)] [])
  refine Go.of (fun _ => XS.aloadN H23.here hx rfl (hb hby d_prog_74_1_11) rfl rfl) ?_
  show Go p e below _ T22 (mkF m 12 #[.val (.ref a1), .val (.ref t1), .val (.ref r1), .val f1, .val o1, .val (.int fl)] [(.ref r1)])
  refine own_ldcO H23 hx hown (ow hw 40 rfl) hst rfl (hb hby d_prog_74_1_12) (nn := 52) (by decide) (by decide) (by decide) (by decide) fun T30 h32 a34 H31 E33 => ?_
  have K35 : Keep h0 h32 [a1] := K15.ext E33
  have f36 := f16.ext E33
  have f37 := f17.ext E33
  have f38 := f18.ext E33
  have f39 := f19.ext E33
  have f40 := f20.ext E33
  have f41 := f21.ext E33
  show Go p e below _ T30 (mkF m 14 #[.val (.ref a1), .val (.ref t1), .val (.ref r1), .val f1, .val o1, .val (.int fl)] [(.ref a34), (.ref r1)])
  refine own_staticW H31 hx (y := (⟨"java/util/Objects", "requireNonNull", "(Ljava/lang/Object;Ljava/lang/String;)Ljava/lang/Object;"⟩ : MethodName)) hown (ow hw 36 rfl) (ow hw 37 rfl) (ow hw 38 rfl) (ow hw 39 rfl) (by decide) (W := 0) (rm_rn l Z a0 hw hE r1 a34 h32 H31.old) (fun _ hq => nomatch hq) (by decide) (by decide) rfl (by rw [hml]; rfl) (argsL := [(.ref r1), (.ref a34)]) (rest := []) rfl (lenOf pd_2 rfl) rfl (by show 2 * 0 + _ ≤ _; exact Nat.le_of_eq rfl) (hb hby d_prog_74_1_14) (by decide) (by decide) fun T42 h44 v46 H43 hs47 q45 => ?_
  obtain ⟨ve49, e48⟩ := q45
  subst e48
  subst ve49
  show Go p e below _ T42 (mkF m 17 #[.val (.ref a1), .val (.ref t1), .val (.ref r1), .val f1, .val o1, .val (.int fl)] [(.ref r1)])
  refine Go.of (fun _ => XS.pop H43.here hx rfl (hb hby d_prog_74_1_17) rfl rfl) ?_
  show Go p e below _ T42 (mkF m 18 #[.val (.ref a1), .val (.ref t1), .val (.ref r1), .val f1, .val o1, .val (.int fl)] [])
  refine Go.of (fun _ => XS.aloadN H43.here hx rfl (hb hby d_prog_74_1_18) rfl rfl) ?_
  show Go p e below _ T42 (mkF m 19 #[.val (.ref a1), .val (.ref t1), .val (.ref r1), .val f1, .val o1, .val (.int fl)] [(.ref a1)])
  refine Go.of (fun _ => XS.aloadN H43.here hx rfl (hb hby d_prog_74_1_19) rfl rfl) ?_
  show Go p e below _ T42 (mkF m 20 #[.val (.ref a1), .val (.ref t1), .val (.ref r1), .val f1, .val o1, .val (.int fl)] [(.ref t1), (.ref a1)])
  refine own_putF H43 hx hown (host := "") (Or.inl (ow hw 41 rfl)) Via.refl f37 f36 (Or.inr ⟨(ow hw 42 rfl), rfl, hnm⟩) (ow hw 15 rfl) (ty := (.object "com/example/sentencia/sentencia/StatementType")) (by decide) rfl rfl g1 (own_exa f36) rfl rfl (hb hby d_prog_74_1_20) fun T50 h52 H51 W53 => ?_
  have K54 : Keep h0 h52 [a1] := K35.wr W53 (Or.inl (List.mem_of_getElem? (i := 0) rfl))
  have f55 := f36.wr W53
  have f56 := f37.same W53
  have f57 := f38.other W53 (Or.inr (slot_ne (Or.inr (ow hw 44 rfl)) (Or.inr (ow hw 42 rfl)) (by decide) (t := (.object "com/example/sentencia/sentencia/ResultSetType")) (t' := (.object "com/example/sentencia/sentencia/StatementType")) (by decide) (by decide)))
  have f58 := f39.other W53 (Or.inr (slot_ne (Or.inr (ow hw 46 rfl)) (Or.inr (ow hw 42 rfl)) (by decide) (t := (.object "java/lang/Integer")) (t' := (.object "com/example/sentencia/sentencia/StatementType")) (by decide) (by decide)))
  have f59 := f40.other W53 (Or.inr (slot_ne (Or.inr (ow hw 48 rfl)) (Or.inr (ow hw 42 rfl)) (by decide) (t := (.object "java/lang/Integer")) (t' := (.object "com/example/sentencia/sentencia/StatementType")) (by decide) (by decide)))
  have f60 := f41.other W53 (Or.inr (slot_ne (Or.inr (ow hw 50 rfl)) (Or.inr (ow hw 42 rfl)) (by decide) (t := .boolean) (t' := (.object "com/example/sentencia/sentencia/StatementType")) (by decide) (by decide)))
  show Go p e below _ T50 (mkF m 23 #[.val (.ref a1), .val (.ref t1), .val (.ref r1), .val f1, .val o1, .val (.int fl)] [])
  refine Go.of (fun _ => XS.aloadN H51.here hx rfl (hb hby d_prog_74_1_23) rfl rfl) ?_
  show Go p e below _ T50 (mkF m 24 #[.val (.ref a1), .val (.ref t1), .val (.ref r1), .val f1, .val o1, .val (.int fl)] [(.ref a1)])
  refine Go.of (fun _ => XS.aloadN H51.here hx rfl (hb hby d_prog_74_1_24) rfl rfl) ?_
  show Go p e below _ T50 (mkF m 25 #[.val (.ref a1), .val (.ref t1), .val (.ref r1), .val f1, .val o1, .val (.int fl)] [(.ref r1), (.ref a1)])
  refine own_putF H51 hx hown (host := "") (Or.inl (ow hw 43 rfl)) Via.refl f57 f55 (Or.inr ⟨(ow hw 44 rfl), rfl, hnm⟩) (ow hw 15 rfl) (ty := (.object "com/example/sentencia/sentencia/ResultSetType")) (by decide) rfl rfl g1 (own_exa f55) rfl rfl (hb hby d_prog_74_1_25) fun T61 h63 H62 W64 => ?_
  have K65 : Keep h0 h63 [a1] := K54.wr W64 (Or.inl (List.mem_of_getElem? (i := 0) rfl))
  have f66 := f55.wr W64
  have f67 := f56.other W64 (Or.inr (slot_ne (Or.inr (ow hw 42 rfl)) (Or.inr (ow hw 44 rfl)) (by decide) (t := (.object "com/example/sentencia/sentencia/StatementType")) (t' := (.object "com/example/sentencia/sentencia/ResultSetType")) (by decide) (by decide)))
  have f68 := f57.same W64
  have f69 := f58.other W64 (Or.inr (slot_ne (Or.inr (ow hw 46 rfl)) (Or.inr (ow hw 44 rfl)) (by decide) (t := (.object "java/lang/Integer")) (t' := (.object "com/example/sentencia/sentencia/ResultSetType")) (by decide) (by decide)))
  have f70 := f59.other W64 (Or.inr (slot_ne (Or.inr (ow hw 48 rfl)) (Or.inr (ow hw 44 rfl)) (by decide) (t := (.object "java/lang/Integer")) (t' := (.object "com/example/sentencia/sentencia/ResultSetType")) (by decide) (by decide)))
  have f71 := f60.other W64 (Or.inr (slot_ne (Or.inr (ow hw 50 rfl)) (Or.inr (ow hw 44 rfl)) (by decide) (t := .boolean) (t' := (.object "com/example/sentencia/sentencia/ResultSetType")) (by decide) (by decide)))
  show Go p e below _ T61 (mkF m 28 #[.val (.ref a1), .val (.ref t1), .val (.ref r1), .val f1, .val o1, .val (.int fl)] [])
  refine Go.of (fun _ => XS.aloadN H62.here hx rfl (hb hby d_prog_74_1_28) rfl rfl) ?_
  show Go p e below _ T61 (mkF m 29 #[.val (.ref a1), .val (.ref t1), .val (.ref r1), .val f1, .val o1, .val (.int fl)] [(.ref a1)])
  refine Go.of (fun _ => XS.aloadN H62.here hx rfl (hb hby d_prog_74_1_29) rfl hf1) ?_
  show Go p e below _ T61 (mkF m 30 #[.val (.ref a1), .val (.ref t1), .val (.ref r1), .val f1, .val o1, .val (.int fl)] [f1, (.ref a1)])
  refine own_putF H62 hx hown (host := "") (Or.inl (ow hw 45 rfl)) Via.refl f69 f66 (Or.inr ⟨(ow hw 46 rfl), rfl, hnm⟩) (ow hw 15 rfl) (ty := (.object "java/lang/Integer")) (by decide) (own_nar hf1) (own_fit hf1) g1 (own_exa f66) rfl rfl (hb hby d_prog_74_1_30) fun T72 h74 H73 W75 => ?_
  have K76 : Keep h0 h74 [a1] := K65.wr W75 (Or.inl (List.mem_of_getElem? (i := 0) rfl))
  have f77 := f66.wr W75
  have f78 := f67.other W75 (Or.inr (slot_ne (Or.inr (ow hw 42 rfl)) (Or.inr (ow hw 46 rfl)) (by decide) (t := (.object "com/example/sentencia/sentencia/StatementType")) (t' := (.object "java/lang/Integer")) (by decide) (by decide)))
  have f79 := f68.other W75 (Or.inr (slot_ne (Or.inr (ow hw 44 rfl)) (Or.inr (ow hw 46 rfl)) (by decide) (t := (.object "com/example/sentencia/sentencia/ResultSetType")) (t' := (.object "java/lang/Integer")) (by decide) (by decide)))
  have f80 := f69.same W75
  have f81 := f70.other W75 (Or.inr (slot_ne (Or.inr (ow hw 48 rfl)) (Or.inr (ow hw 46 rfl)) (by decide) (t := (.object "java/lang/Integer")) (t' := (.object "java/lang/Integer")) (by decide) (by decide)))
  have f82 := f71.other W75 (Or.inr (slot_ne (Or.inr (ow hw 50 rfl)) (Or.inr (ow hw 46 rfl)) (by decide) (t := .boolean) (t' := (.object "java/lang/Integer")) (by decide) (by decide)))
  show Go p e below _ T72 (mkF m 33 #[.val (.ref a1), .val (.ref t1), .val (.ref r1), .val f1, .val o1, .val (.int fl)] [])
  refine Go.of (fun _ => XS.aloadN H73.here hx rfl (hb hby d_prog_74_1_33) rfl rfl) ?_
  show Go p e below _ T72 (mkF m 34 #[.val (.ref a1), .val (.ref t1), .val (.ref r1), .val f1, .val o1, .val (.int fl)] [(.ref a1)])
  refine Go.of (fun _ => XS.aload H73.here hx rfl (hb hby d_prog_74_1_34) rfl ho1) ?_
  show Go p e below _ T72 (mkF m 36 #[.val (.ref a1), .val (.ref t1), .val (.ref r1), .val f1, .val o1, .val (.int fl)] [o1, (.ref a1)])
  refine own_putF H73 hx hown (host := "") (Or.inl (ow hw 47 rfl)) Via.refl f81 f77 (Or.inr ⟨(ow hw 48 rfl), rfl, hnm⟩) (ow hw 15 rfl) (ty := (.object "java/lang/Integer")) (by decide) (own_nar ho1) (own_fit ho1) g1 (own_exa f77) rfl rfl (hb hby d_prog_74_1_36) fun T83 h85 H84 W86 => ?_
  have K87 : Keep h0 h85 [a1] := K76.wr W86 (Or.inl (List.mem_of_getElem? (i := 0) rfl))
  have f88 := f77.wr W86
  have f89 := f78.other W86 (Or.inr (slot_ne (Or.inr (ow hw 42 rfl)) (Or.inr (ow hw 48 rfl)) (by decide) (t := (.object "com/example/sentencia/sentencia/StatementType")) (t' := (.object "java/lang/Integer")) (by decide) (by decide)))
  have f90 := f79.other W86 (Or.inr (slot_ne (Or.inr (ow hw 44 rfl)) (Or.inr (ow hw 48 rfl)) (by decide) (t := (.object "com/example/sentencia/sentencia/ResultSetType")) (t' := (.object "java/lang/Integer")) (by decide) (by decide)))
  have f91 := f80.other W86 (Or.inr (slot_ne (Or.inr (ow hw 46 rfl)) (Or.inr (ow hw 48 rfl)) (by decide) (t := (.object "java/lang/Integer")) (t' := (.object "java/lang/Integer")) (by decide) (by decide)))
  have f92 := f81.same W86
  have f93 := f82.other W86 (Or.inr (slot_ne (Or.inr (ow hw 50 rfl)) (Or.inr (ow hw 48 rfl)) (by decide) (t := .boolean) (t' := (.object "java/lang/Integer")) (by decide) (by decide)))
  show Go p e below _ T83 (mkF m 39 #[.val (.ref a1), .val (.ref t1), .val (.ref r1), .val f1, .val o1, .val (.int fl)] [])
  refine Go.of (fun _ => XS.aloadN H84.here hx rfl (hb hby d_prog_74_1_39) rfl rfl) ?_
  show Go p e below _ T83 (mkF m 40 #[.val (.ref a1), .val (.ref t1), .val (.ref r1), .val f1, .val o1, .val (.int fl)] [(.ref a1)])
  refine Go.of (fun _ => XS.iload H84.here hx rfl (hb hby d_prog_74_1_40) rfl) ?_
  show Go p e below _ T83 (mkF m 42 #[.val (.ref a1), .val (.ref t1), .val (.ref r1), .val f1, .val o1, .val (.int fl)] [(.int fl), (.ref a1)])
  refine own_putFN H84 hx hown (ow hw 49 rfl) Via.refl f93 f88 (Or.inr ⟨(ow hw 50 rfl), rfl, hnm⟩) (ow hw 15 rfl) (ty := .boolean) (v' := .int (nar .boolean fl)) (by decide) rfl (fits_nar_bool _) g1 (own_exa f88) rfl rfl (hb hby d_prog_74_1_42) fun T94 h96 H95 W97 => ?_
  have K98 : Keep h0 h96 [a1] := K87.wr W97 (Or.inl (List.mem_of_getElem? (i := 0) rfl))
  have f99 := f88.wr W97
  have f100 := f89.other W97 (Or.inr (slot_ne (Or.inr (ow hw 42 rfl)) (Or.inr (ow hw 50 rfl)) (by decide) (t := (.object "com/example/sentencia/sentencia/StatementType")) (t' := .boolean) (by decide) (by decide)))
  have f101 := f90.other W97 (Or.inr (slot_ne (Or.inr (ow hw 44 rfl)) (Or.inr (ow hw 50 rfl)) (by decide) (t := (.object "com/example/sentencia/sentencia/ResultSetType")) (t' := .boolean) (by decide) (by decide)))
  have f102 := f91.other W97 (Or.inr (slot_ne (Or.inr (ow hw 46 rfl)) (Or.inr (ow hw 50 rfl)) (by decide) (t := (.object "java/lang/Integer")) (t' := .boolean) (by decide) (by decide)))
  have f103 := f92.other W97 (Or.inr (slot_ne (Or.inr (ow hw 48 rfl)) (Or.inr (ow hw 50 rfl)) (by decide) (t := (.object "java/lang/Integer")) (t' := .boolean) (by decide) (by decide)))
  have f104 := f93.same W97
  show Go p e below _ T94 (mkF m 45 #[.val (.ref a1), .val (.ref t1), .val (.ref r1), .val f1, .val o1, .val (.int fl)] [])
  exact own_ret H95 hx hlk hret (hb hby d_prog_74_1_45) ⟨rfl, K98, f99, f100, f101, f102, f103, by rw [← own_nb01 hfl]; exact f104⟩ (by decide) (by decide)
set_option maxRecDepth 65536 in
set_option maxHeartbeats 40000000 in
theorem rm_wf (l : Launch) (Z : State) (a0 : Array Value) (hw : ∀ d ∈ tables_1, d.before a0 Z = true) (hE : EW Z a0 ELx) (a1 : Addr) (p1 : Int32) (t1 : Addr) (r1 : Addr) (f1 : Value) (o1 : Value) (fl : Int32) (ca : Addr) (cl : Cell) (h0 : Heap) (O0 : Ext Z.heap h0) (SH : Sta Z Z.heap "java/lang/Integer$IntegerCache" "high" "I" (.int 127)) (SCa : Sta Z Z.heap "java/lang/Integer$IntegerCache" "cache" "[Ljava/lang/Integer;" (.ref ca)) (BX : Bxs Z ca cl "java/lang/Integer" "I" 256 (fun j => .int (j - 128))) (hf1 : f1.isRef = true) (ho1 : o1.isRef = true) (hfl : fl = 0 ∨ fl = 1) (E1 : Exa Z h0 a1 "com/example/sentencia/sentencia/StatementAttributes") (F0 : Fld Z h0 a1 "com/example/sentencia/sentencia/StatementAttributes" "type" "Lcom/example/sentencia/sentencia/StatementType;" (.ref t1)) (F1 : Fld Z h0 a1 "com/example/sentencia/sentencia/StatementAttributes" "resultSetType" "Lcom/example/sentencia/sentencia/ResultSetType;" (.ref r1)) (F2 : Fld Z h0 a1 "com/example/sentencia/sentencia/StatementAttributes" "fetchSize" "Ljava/lang/Integer;" f1) (F3 : Fld Z h0 a1 "com/example/sentencia/sentencia/StatementAttributes" "timeout" "Ljava/lang/Integer;" o1) (F4 : Fld Z h0 a1 "com/example/sentencia/sentencia/StatementAttributes" "flushCache" "Z" (.int fl)) :
    Ct l Z ELx a0 true (⟨"com/example/sentencia/sentencia/StatementAttributes", "withFetchSize", "(I)Lcom/example/sentencia/sentencia/StatementAttributes;"⟩ : MethodName) prog_74_method_2_code 2 (some (.object "com/example/sentencia/sentencia/StatementAttributes")) [] ({ frames := 4, cells := 6, slots := 82, locals := 57 } : Room) #[(.ref a1), (.int p1)] h0 [] (fun v h => ∃ b x, v = some (.ref b) ∧ Keep h0 h [] ∧ h0.size ≤ b ∧ Exa Z h b "com/example/sentencia/sentencia/StatementAttributes" ∧ Fld Z h b "com/example/sentencia/sentencia/StatementAttributes" "type" "Lcom/example/sentencia/sentencia/StatementType;" (.ref t1) ∧ Fld Z h b "com/example/sentencia/sentencia/StatementAttributes" "resultSetType" "Lcom/example/sentencia/sentencia/ResultSetType;" (.ref r1) ∧ Fld Z h b "com/example/sentencia/sentencia/StatementAttributes" "fetchSize" "Ljava/lang/Integer;" (.ref x) ∧ Fld Z h b "com/example/sentencia/sentencia/StatementAttributes" "timeout" "Ljava/lang/Integer;" o1 ∧ Fld Z h b "com/example/sentencia/sentencia/StatementAttributes" "flushCache" "Z" (.int fl) ∧ own_bx Z h x p1) := by
  refine own_enter (plainFor_of_name pn_4) hE O0 ?_
  intro p e s m below meth c s₁ hx hby hml hown hnm hret hlk H0
  refine Go.eq (ef_rm_wf m a1 p1) ?_
  have K1 : Keep h0 h0 [] := Keep.refl _ _
  show Go p e below _ s₁ (mkF m 0 #[.val (.ref a1), .val (.int p1)] [])
  refine own_new H0 hx hown (ow hw 56 rfl) (ow hw 15 rfl) (ow hw 16 rfl) rfl (hb hby d_prog_74_2_0) (by decide) (by decide) fun T2 h4 b5 g6 H3 E7 A8 D9 => ?_
  have ne10 : a1 ≠ b5 := by rw [g6]; exact Nat.ne_of_lt E1.lt
  have fr11 : Z.heap.size ≤ b5 := by rw [g6]; exact H0.old.1
  have sz12 : h0.size ≤ b5 := by rw [g6]; exact K1.1
  have K13 : Keep h0 h4 [] := K1.ext E7
  have f14 := E1.ext E7
  have f15 := F0.ext E7
  have f16 := F1.ext E7
  have f17 := F2.ext E7
  have f18 := F3.ext E7
  have f19 := F4.ext E7
  have f20 : Fld Z h4 b5 "com/example/sentencia/sentencia/StatementAttributes" "type" "Lcom/example/sentencia/sentencia/StatementType;" .null := D9 (Or.inr (ow hw 42 rfl)) (ty := (.object "com/example/sentencia/sentencia/StatementType")) (by decide)
  have f21 : Fld Z h4 b5 "com/example/sentencia/sentencia/StatementAttributes" "resultSetType" "Lcom/example/sentencia/sentencia/ResultSetType;" .null := D9 (Or.inr (ow hw 44 rfl)) (ty := (.object "com/example/sentencia/sentencia/ResultSetType")) (by decide)
  have f22 : Fld Z h4 b5 "com/example/sentencia/sentencia/StatementAttributes" "fetchSize" "Ljava/lang/Integer;" .null := D9 (Or.inr (ow hw 46 rfl)) (ty := (.object "java/lang/Integer")) (by decide)
  have f23 : Fld Z h4 b5 "com/example/sentencia/sentencia/StatementAttributes" "timeout" "Ljava/lang/Integer;" .null := D9 (Or.inr (ow hw 48 rfl)) (ty := (.object "java/lang/Integer")) (by decide)
  have f24 : Fld Z h4 b5 "com/example/sentencia/sentencia/StatementAttributes" "flushCache" "Z" (.int (0 : Int32)) := D9 (Or.inr (ow hw 50 rfl)) (ty := .boolean) (by decide)
  show Go p e below _ T2 (mkF m 3 #[.val (.ref a1), .val (.int p1)] [(.ref b5)])
  refine Go.of (fun _ => XS.dup H3.here hx rfl (hb hby d_prog_74_2_3) rfl rfl) ?_
  show Go p e below _ T2 (mkF m 4 #[.val (.ref a1), .val (.int p1)] [(.ref b5), (.ref b5)])
  refine Go.of (fun _ => XS.aloadN H3.here hx rfl (hb hby d_prog_74_2_4) rfl rfl) ?_
  show Go p e below _ T2 (mkF m 5 #[.val (.ref a1), .val (.int p1)] [(.ref a1), (.ref b5), (.ref b5)])
  refine own_getF H3 hx hown (host := "") (Or.inl (ow hw 41 rfl)) Via.refl f15 rfl rfl (hb hby d_prog_74_2_5) fun T25 H26 => ?_
  show Go p e below _ T25 (mkF m 8 #[.val (.ref a1), .val (.int p1)] [(.ref t1), (.ref b5), (.ref b5)])
  refine Go.of (fun _ => XS.aloadN H26.here hx rfl (hb hby d_prog_74_2_8) rfl rfl) ?_
  show Go p e below _ T25 (mkF m 9 #[.val (.ref a1), .val (.int p1)] [(.ref a1), (.ref t1), (.ref b5), (.ref b5)])
  refine own_getF H26 hx hown (host := "") (Or.inl (ow hw 43 rfl)) Via.refl f16 rfl rfl (hb hby d_prog_74_2_9) fun T27 H28 => ?_
  show Go p e below _ T27 (mkF m 12 #[.val (.ref a1), .val (.int p1)] [(.ref r1), (.ref t1), (.ref b5), (.ref b5)])
  refine Go.of (fun _ => XS.iloadN H28.here hx rfl (hb hby d_prog_74_2_12) rfl) ?_
  show Go p e below _ T27 (mkF m 13 #[.val (.ref a1), .val (.int p1)] [(.int p1), (.ref r1), (.ref t1), (.ref b5), (.ref b5)])
  refine own_staticW H28 hx (y := (⟨"java/lang/Integer", "valueOf", "(I)Ljava/lang/Integer;"⟩ : MethodName)) hown (ow hw 57 rfl) (ow hw 58 rfl) (ow hw 59 rfl) (ow hw 60 rfl) (by decide) (W := 4) (rm_vo l Z a0 hw hE p1 ca cl h4 H28.old SH SCa BX) (fun _ hq => nomatch hq) (by decide) (by decide) rfl (by rw [hml]; rfl) (argsL := [(.int p1)]) (rest := [(.ref r1), (.ref t1), (.ref b5), (.ref b5)]) rfl (lenOf pd_3 rfl) rfl (by show 2 * 0 + _ ≤ _; exact Nat.le_of_eq rfl) (hb hby d_prog_74_2_13) (by decide) (by decide) fun T29 h31 v33 H30 hs34 q32 => ?_
  obtain ⟨bx35, rfl, K36, B37⟩ := q32
  have K38 : Keep h0 h31 [] := K13.trans K36 all0
  have f39 := f14.keep K36
  have f40 := f15.keep K36 nin0
  have f41 := f16.keep K36 nin0
  have f42 := f17.keep K36 nin0
  have f43 := f18.keep K36 nin0
  have f44 := f19.keep K36 nin0
  have f45 := A8.keep K36
  have f46 := f20.keep K36 nin0
  have f47 := f21.keep K36 nin0
  have f48 := f22.keep K36 nin0
  have f49 := f23.keep K36 nin0
  have f50 := f24.keep K36 nin0
  show Go p e below _ T29 (mkF m 16 #[.val (.ref a1), .val (.int p1)] [(.ref bx35), (.ref r1), (.ref t1), (.ref b5), (.ref b5)])
  refine Go.of (fun _ => XS.aloadN H30.here hx rfl (hb hby d_prog_74_2_16) rfl rfl) ?_
  show Go p e below _ T29 (mkF m 17 #[.val (.ref a1), .val (.int p1)] [(.ref a1), (.ref bx35), (.ref r1), (.ref t1), (.ref b5), (.ref b5)])
  refine own_getF H30 hx hown (host := "") (Or.inl (ow hw 47 rfl)) Via.refl f43 rfl rfl (hb hby d_prog_74_2_17) fun T51 H52 => ?_
  show Go p e below _ T51 (mkF m 20 #[.val (.ref a1), .val (.int p1)] [o1, (.ref bx35), (.ref r1), (.ref t1), (.ref b5), (.ref b5)])
  refine Go.of (fun _ => XS.aloadN H52.here hx rfl (hb hby d_prog_74_2_20) rfl rfl) ?_
  show Go p e below _ T51 (mkF m 21 #[.val (.ref a1), .val (.int p1)] [(.ref a1), o1, (.ref bx35), (.ref r1), (.ref t1), (.ref b5), (.ref b5)])
  refine own_getF H52 hx hown (host := "") (Or.inl (ow hw 49 rfl)) Via.refl f44 rfl rfl (hb hby d_prog_74_2_21) fun T53 H54 => ?_
  show Go p e below _ T53 (mkF m 24 #[.val (.ref a1), .val (.int p1)] [(.int fl), o1, (.ref bx35), (.ref r1), (.ref t1), (.ref b5), (.ref b5)])
  refine own_specialW H54 hx (y := (⟨"com/example/sentencia/sentencia/StatementAttributes", "<init>", "(Lcom/example/sentencia/sentencia/StatementType;Lcom/example/sentencia/sentencia/ResultSetType;Ljava/lang/Integer;Ljava/lang/Integer;Z)V"⟩ : MethodName)) rfl hown (ow hw 64 rfl) (ow hw 18 rfl) (ow hw 16 rfl) (ow hw 19 rfl) (by decide) (W := 1) (rm_si l Z a0 hw hE b5 t1 r1 (.ref bx35) o1 fl h31 H54.old rfl ho1 hfl f45 f46 f47 f48 f49 f50 fr11) (fun _ hq => nomatch hq) (by decide) (by decide) rfl (by rw [hml]; rfl) (a := b5) (argsL := [(.ref t1), (.ref r1), (.ref bx35), o1, (.int fl)]) (rest := [(.ref b5)]) rfl (lenOf pd_4 rfl) rfl (by show 2 * 0 + _ ≤ _; exact Nat.le_of_eq rfl) (hb hby d_prog_74_2_24) (by decide) (by decide) fun T55 h57 v59 H56 hs60 q58 => ?_
  obtain ⟨rfl, K61, E62, F63, F64, F65, F66, F67⟩ := q58
  have K68 : Keep h0 h57 [] := K38.trans K61 (allS (Or.inr sz12) all0)
  have B69 := B37.keep K61 (allS ⟨_, f45, by decide⟩ all0)
  have f70 := f39.keep K61
  have f71 := f40.keep K61 (ninS ne10 nin0)
  have f72 := f41.keep K61 (ninS ne10 nin0)
  have f73 := f42.keep K61 (ninS ne10 nin0)
  have f74 := f43.keep K61 (ninS ne10 nin0)
  have f75 := f44.keep K61 (ninS ne10 nin0)
  have f76 := f45.keep K61
  show Go p e below _ T55 (mkF m 27 #[.val (.ref a1), .val (.int p1)] [(.ref b5)])
  exact own_retA H56 hx hlk hret rfl rfl (hb hby d_prog_74_2_27) ⟨b5, bx35, rfl, K68, sz12, E62, F63, F64, F65, F66, F67, B69⟩ (by decide) (by decide)
set_option maxRecDepth 65536 in
set_option maxHeartbeats 40000000 in
theorem rm_type (l : Launch) (Z : State) (a0 : Array Value) (hw : ∀ d ∈ tables_1, d.before a0 Z = true) (hE : EW Z a0 ELx) (a1 : Addr) (x1 : Addr) (h0 : Heap) (O0 : Ext Z.heap h0) (F1 : Fld Z h0 a1 "com/example/sentencia/sentencia/StatementAttributes" "type" "Lcom/example/sentencia/sentencia/StatementType;" (.ref x1)) :
    Ct l Z ELx a0 true (⟨"com/example/sentencia/sentencia/StatementAttributes", "type", "()Lcom/example/sentencia/sentencia/StatementType;"⟩ : MethodName) prog_74_method_6_code 1 (some (.object "com/example/sentencia/sentencia/StatementType")) [] ({ frames := 0, cells := 0, slots := 0, locals := 0 } : Room) #[(.ref a1)] h0 [] (fun v h => v = some (.ref x1) ∧ h0 = h) := by
  refine own_enter (plainFor_of_name pn_4) hE O0 ?_
  intro p e s m below meth c s₁ hx hby hml hown hnm hret hlk H0
  refine Go.eq (ef_rm_type m a1) ?_
  show Go p e below _ s₁ (mkF m 0 #[.val (.ref a1)] [])
  refine Go.of (fun _ => XS.aloadN H0.here hx rfl (hb hby d_prog_74_6_0) rfl rfl) ?_
  show Go p e below _ s₁ (mkF m 1 #[.val (.ref a1)] [(.ref a1)])
  refine own_getF H0 hx hown (host := "") (Or.inl (ow hw 41 rfl)) Via.refl F1 rfl rfl (hb hby d_prog_74_6_1) fun T1 H2 => ?_
  show Go p e below _ T1 (mkF m 4 #[.val (.ref a1)] [(.ref x1)])
  exact own_retA H2 hx hlk hret rfl rfl (hb hby d_prog_74_6_4) ⟨rfl, rfl⟩ (by decide) (by decide)
set_option maxRecDepth 65536 in
set_option maxHeartbeats 40000000 in
theorem rm_resultSetType (l : Launch) (Z : State) (a0 : Array Value) (hw : ∀ d ∈ tables_1, d.before a0 Z = true) (hE : EW Z a0 ELx) (a1 : Addr) (x1 : Addr) (h0 : Heap) (O0 : Ext Z.heap h0) (F1 : Fld Z h0 a1 "com/example/sentencia/sentencia/StatementAttributes" "resultSetType" "Lcom/example/sentencia/sentencia/ResultSetType;" (.ref x1)) :
    Ct l Z ELx a0 true (⟨"com/example/sentencia/sentencia/StatementAttributes", "resultSetType", "()Lcom/example/sentencia/sentencia/ResultSetType;"⟩ : MethodName) prog_74_method_7_code 1 (some (.object "com/example/sentencia/sentencia/ResultSetType")) [] ({ frames := 0, cells := 0, slots := 0, locals := 0 } : Room) #[(.ref a1)] h0 [] (fun v h => v = some (.ref x1) ∧ h0 = h) := by
  refine own_enter (plainFor_of_name pn_4) hE O0 ?_
  intro p e s m below meth c s₁ hx hby hml hown hnm hret hlk H0
  refine Go.eq (ef_rm_resultSetType m a1) ?_
  show Go p e below _ s₁ (mkF m 0 #[.val (.ref a1)] [])
  refine Go.of (fun _ => XS.aloadN H0.here hx rfl (hb hby d_prog_74_7_0) rfl rfl) ?_
  show Go p e below _ s₁ (mkF m 1 #[.val (.ref a1)] [(.ref a1)])
  refine own_getF H0 hx hown (host := "") (Or.inl (ow hw 43 rfl)) Via.refl F1 rfl rfl (hb hby d_prog_74_7_1) fun T1 H2 => ?_
  show Go p e below _ T1 (mkF m 4 #[.val (.ref a1)] [(.ref x1)])
  exact own_retA H2 hx hlk hret rfl rfl (hb hby d_prog_74_7_4) ⟨rfl, rfl⟩ (by decide) (by decide)
set_option maxRecDepth 65536 in
set_option maxHeartbeats 40000000 in
theorem rm_fetchSize (l : Launch) (Z : State) (a0 : Array Value) (hw : ∀ d ∈ tables_1, d.before a0 Z = true) (hE : EW Z a0 ELx) (a1 : Addr) (x1 : Value) (h0 : Heap) (O0 : Ext Z.heap h0) (hx1 : x1.isRef = true) (F1 : Fld Z h0 a1 "com/example/sentencia/sentencia/StatementAttributes" "fetchSize" "Ljava/lang/Integer;" x1) :
    Ct l Z ELx a0 true (⟨"com/example/sentencia/sentencia/StatementAttributes", "fetchSize", "()Ljava/lang/Integer;"⟩ : MethodName) prog_74_method_8_code 1 (some (.object "java/lang/Integer")) [] ({ frames := 0, cells := 0, slots := 0, locals := 0 } : Room) #[(.ref a1)] h0 [] (fun v h => v = some x1 ∧ h0 = h) := by
  refine own_enter (plainFor_of_name pn_4) hE O0 ?_
  intro p e s m below meth c s₁ hx hby hml hown hnm hret hlk H0
  refine Go.eq (ef_rm_fetchSize m a1) ?_
  show Go p e below _ s₁ (mkF m 0 #[.val (.ref a1)] [])
  refine Go.of (fun _ => XS.aloadN H0.here hx rfl (hb hby d_prog_74_8_0) rfl rfl) ?_
  show Go p e below _ s₁ (mkF m 1 #[.val (.ref a1)] [(.ref a1)])
  refine own_getF H0 hx hown (host := "") (Or.inl (ow hw 45 rfl)) Via.refl F1 rfl rfl (hb hby d_prog_74_8_1) fun T1 H2 => ?_
  show Go p e below _ T1 (mkF m 4 #[.val (.ref a1)] [x1])
  exact own_retA H2 hx hlk hret rfl hx1 (hb hby d_prog_74_8_4) ⟨rfl, rfl⟩ (by decide) (by decide)
set_option maxRecDepth 65536 in
set_option maxHeartbeats 40000000 in
theorem rm_timeout (l : Launch) (Z : State) (a0 : Array Value) (hw : ∀ d ∈ tables_1, d.before a0 Z = true) (hE : EW Z a0 ELx) (a1 : Addr) (x1 : Value) (h0 : Heap) (O0 : Ext Z.heap h0) (hx1 : x1.isRef = true) (F1 : Fld Z h0 a1 "com/example/sentencia/sentencia/StatementAttributes" "timeout" "Ljava/lang/Integer;" x1) :
    Ct l Z ELx a0 true (⟨"com/example/sentencia/sentencia/StatementAttributes", "timeout", "()Ljava/lang/Integer;"⟩ : MethodName) prog_74_method_9_code 1 (some (.object "java/lang/Integer")) [] ({ frames := 0, cells := 0, slots := 0, locals := 0 } : Room) #[(.ref a1)] h0 [] (fun v h => v = some x1 ∧ h0 = h) := by
  refine own_enter (plainFor_of_name pn_4) hE O0 ?_
  intro p e s m below meth c s₁ hx hby hml hown hnm hret hlk H0
  refine Go.eq (ef_rm_timeout m a1) ?_
  show Go p e below _ s₁ (mkF m 0 #[.val (.ref a1)] [])
  refine Go.of (fun _ => XS.aloadN H0.here hx rfl (hb hby d_prog_74_9_0) rfl rfl) ?_
  show Go p e below _ s₁ (mkF m 1 #[.val (.ref a1)] [(.ref a1)])
  refine own_getF H0 hx hown (host := "") (Or.inl (ow hw 47 rfl)) Via.refl F1 rfl rfl (hb hby d_prog_74_9_1) fun T1 H2 => ?_
  show Go p e below _ T1 (mkF m 4 #[.val (.ref a1)] [x1])
  exact own_retA H2 hx hlk hret rfl hx1 (hb hby d_prog_74_9_4) ⟨rfl, rfl⟩ (by decide) (by decide)
set_option maxRecDepth 65536 in
set_option maxHeartbeats 40000000 in
theorem rm_flushCache (l : Launch) (Z : State) (a0 : Array Value) (hw : ∀ d ∈ tables_1, d.before a0 Z = true) (hE : EW Z a0 ELx) (a1 : Addr) (x1 : Int32) (h0 : Heap) (O0 : Ext Z.heap h0) (hx1 : x1 = 0 ∨ x1 = 1) (F1 : Fld Z h0 a1 "com/example/sentencia/sentencia/StatementAttributes" "flushCache" "Z" (.int x1)) :
    Ct l Z ELx a0 true (⟨"com/example/sentencia/sentencia/StatementAttributes", "flushCache", "()Z"⟩ : MethodName) prog_74_method_10_code 1 (some .boolean) [] ({ frames := 0, cells := 0, slots := 0, locals := 0 } : Room) #[(.ref a1)] h0 [] (fun v h => v = some (.int x1) ∧ h0 = h) := by
  refine own_enter (plainFor_of_name pn_4) hE O0 ?_
  intro p e s m below meth c s₁ hx hby hml hown hnm hret hlk H0
  refine Go.eq (ef_rm_flushCache m a1) ?_
  show Go p e below _ s₁ (mkF m 0 #[.val (.ref a1)] [])
  refine Go.of (fun _ => XS.aloadN H0.here hx rfl (hb hby d_prog_74_10_0) rfl rfl) ?_
  show Go p e below _ s₁ (mkF m 1 #[.val (.ref a1)] [(.ref a1)])
  refine own_getF H0 hx hown (host := "") (Or.inl (ow hw 49 rfl)) Via.refl F1 rfl rfl (hb hby d_prog_74_10_1) fun T1 H2 => ?_
  show Go p e below _ T1 (mkF m 4 #[.val (.ref a1)] [(.int x1)])
  exact own_retN H2 hx hlk (t := .boolean) hret (by simp) (hb hby d_prog_74_10_4) ⟨by rw [own_nb01 hx1], rfl⟩ (by decide) (by decide)
set_option maxRecDepth 65536 in
set_option maxHeartbeats 40000000 in
theorem rm_sm (l : Launch) (Z : State) (a0 : Array Value) (hw : ∀ d ∈ tables_1, d.before a0 Z = true) (hE : EW Z a0 ELx) (v1 : Value) (h0 : Heap) (O0 : Ext Z.heap h0) (hv1 : v1.isRef = true) (hb1 : own_ob Z h0 v1) :
    Ct l Z ELx a0 true (⟨"com/example/sentencia/sentencia/StatementAttributesWithFetchSizePinLaw", "sameInt", "(Ljava/lang/Integer;Ljava/lang/Integer;)Z"⟩ : MethodName) method_4_code 2 (some .boolean) [] ({ frames := 1, cells := 0, slots := 0, locals := 16 } : Room) #[v1, v1] h0 [] (fun v h => v = some (.int 1) ∧ h0 = h) := by
  refine own_enter (plainFor_of_name pn_5) hE O0 ?_
  intro p e s m below meth c s₁ hx hby hml hown hnm hret hlk H0
  refine Go.eq (ef_rm_sm m v1 v1 hv1 hv1) ?_
  rcases hb1 with rfl | ⟨ba, bx, rfl, B1⟩
  · skip
    show Go p e below _ s₁ (mkF m 0 #[.val .null, .val .null] [])
    refine Go.of (fun _ => XS.aloadN H0.here hx rfl (hb hby d_4_0) rfl rfl) ?_
    show Go p e below _ s₁ (mkF m 1 #[.val .null, .val .null] [.null])
    refine Go.of (fun _ => XS.ifnonnullNo H0.here hx rfl (hb hby d_4_1) rfl) ?_
    show Go p e below _ s₁ (mkF m 4 #[.val .null, .val .null] [])
    refine Go.of (fun _ => XS.aloadN H0.here hx rfl (hb hby d_4_4) rfl rfl) ?_
    show Go p e below _ s₁ (mkF m 5 #[.val .null, .val .null] [.null])
    refine Go.of (fun _ => XS.ifnonnullNo H0.here hx rfl (hb hby d_4_5) rfl) ?_
    show Go p e below _ s₁ (mkF m 8 #[.val .null, .val .null] [])
    refine Go.of (fun _ => XS.iconst H0.here hx rfl (hb hby d_4_8)) ?_
    show Go p e below _ s₁ (mkF m 9 #[.val .null, .val .null] [(.int (1 : Int32))])
    refine Go.of (fun _ => XS.goto H0.here hx rfl (pc0 := 9) (pc' := 13) rfl (hb hby d_4_9) (by decide) (by decide)) ?_
    show Go p e below _ s₁ (mkF m 13 #[.val .null, .val .null] [(.int (1 : Int32))])
    exact own_retN H0 hx hlk (t := .boolean) hret (by simp) (hb hby d_4_13) ⟨rfl, rfl⟩ (by decide) (by decide)
  · skip
    show Go p e below _ s₁ (mkF m 0 #[.val (.ref ba), .val (.ref ba)] [])
    refine Go.of (fun _ => XS.aloadN H0.here hx rfl (hb hby d_4_0) rfl rfl) ?_
    show Go p e below _ s₁ (mkF m 1 #[.val (.ref ba), .val (.ref ba)] [(.ref ba)])
    refine Go.of (fun _ => XS.ifnonnullYes H0.here hx rfl (pc0 := 1) (pc' := 14) rfl (hb hby d_4_1) rfl (by decide) (by decide)) ?_
    show Go p e below _ s₁ (mkF m 14 #[.val (.ref ba), .val (.ref ba)] [])
    refine Go.of (fun _ => XS.aloadN H0.here hx rfl (hb hby d_4_14) rfl rfl) ?_
    show Go p e below _ s₁ (mkF m 15 #[.val (.ref ba), .val (.ref ba)] [(.ref ba)])
    refine Go.of (fun _ => XS.ifnullNo H0.here hx rfl (hb hby d_4_15) rfl) ?_
    show Go p e below _ s₁ (mkF m 18 #[.val (.ref ba), .val (.ref ba)] [])
    refine Go.of (fun _ => XS.aloadN H0.here hx rfl (hb hby d_4_18) rfl rfl) ?_
    show Go p e below _ s₁ (mkF m 19 #[.val (.ref ba), .val (.ref ba)] [(.ref ba)])
    refine own_virtualW H0 hx (y := (⟨"java/lang/Integer", "intValue", "()I"⟩ : MethodName)) (z := (⟨"java/lang/Integer", "intValue", "()I"⟩ : MethodName)) hown (ow hw 70 rfl) (ow hw 71 rfl) (own_nf (ow hw 73 rfl) rfl) (ow hw 73 rfl) (ow hw 72 rfl) (ow hw 59 rfl) (ow hw 74 rfl) (by decide) (W := 0) (rm_iv l Z a0 hw hE ba bx h0 H0.old B1.2) (fun _ hq => nomatch hq) (by decide) (by decide) B1.1 rfl (by rw [hml]; rfl) (argsL := []) (rest := []) rfl (lenOf pd_5 rfl) rfl (by show 2 * 0 + _ ≤ _; exact Nat.le_of_eq rfl) (hb hby d_4_19) (by decide) (by decide) fun T1 h3 v5 H2 hs6 q4 => ?_
    obtain ⟨ve8, e7⟩ := q4
    subst e7
    subst ve8
    show Go p e below _ T1 (mkF m 22 #[.val (.ref ba), .val (.ref ba)] [(.int bx)])
    refine Go.of (fun _ => XS.aloadN H2.here hx rfl (hb hby d_4_22) rfl rfl) ?_
    show Go p e below _ T1 (mkF m 23 #[.val (.ref ba), .val (.ref ba)] [(.ref ba), (.int bx)])
    refine own_virtualW H2 hx (y := (⟨"java/lang/Integer", "intValue", "()I"⟩ : MethodName)) (z := (⟨"java/lang/Integer", "intValue", "()I"⟩ : MethodName)) hown (ow hw 70 rfl) (ow hw 71 rfl) (own_nf (ow hw 73 rfl) rfl) (ow hw 73 rfl) (ow hw 72 rfl) (ow hw 59 rfl) (ow hw 74 rfl) (by decide) (W := 1) (rm_iv l Z a0 hw hE ba bx h0 H2.old B1.2) (fun _ hq => nomatch hq) (by decide) (by decide) B1.1 rfl (by rw [hml]; rfl) (argsL := []) (rest := [(.int bx)]) rfl (lenOf pd_5 rfl) rfl (by show 2 * 0 + _ ≤ _; exact Nat.le_of_eq rfl) (hb hby d_4_23) (by decide) (by decide) fun T9 h11 v13 H10 hs14 q12 => ?_
    obtain ⟨ve16, e15⟩ := q12
    subst e15
    subst ve16
    show Go p e below _ T9 (mkF m 26 #[.val (.ref ba), .val (.ref ba)] [(.int bx), (.int bx)])
    refine Go.of (fun _ => XS.icmpNo H10.here hx rfl (hb hby d_4_26) rfl (teq rfl).2) ?_
    show Go p e below _ T9 (mkF m 29 #[.val (.ref ba), .val (.ref ba)] [])
    refine Go.of (fun _ => XS.iconst H10.here hx rfl (hb hby d_4_29)) ?_
    show Go p e below _ T9 (mkF m 30 #[.val (.ref ba), .val (.ref ba)] [(.int (1 : Int32))])
    refine Go.of (fun _ => XS.goto H10.here hx rfl (pc0 := 30) (pc' := 34) rfl (hb hby d_4_30) (by decide) (by decide)) ?_
    show Go p e below _ T9 (mkF m 34 #[.val (.ref ba), .val (.ref ba)] [(.int (1 : Int32))])
    exact own_retN H10 hx hlk (t := .boolean) hret (by simp) (hb hby d_4_34) ⟨rfl, rfl⟩ (by decide) (by decide)
set_option maxRecDepth 65536 in
set_option maxHeartbeats 40000000 in
theorem rm_pt (l : Launch) (Z : State) (a0 : Array Value) (hw : ∀ d ∈ tables_1, d.before a0 Z = true) (hE : EW Z a0 ELx) (p1 : Int32) (w0 : Addr) (w1 : Addr) (w2 : Addr) (h0 : Heap) (O0 : Ext Z.heap h0) (Sw0 : Sta Z Z.heap "com/example/sentencia/sentencia/StatementType" "STATEMENT" "Lcom/example/sentencia/sentencia/StatementType;" (.ref w0)) (Sw1 : Sta Z Z.heap "com/example/sentencia/sentencia/StatementType" "PREPARED" "Lcom/example/sentencia/sentencia/StatementType;" (.ref w1)) (Sw2 : Sta Z Z.heap "com/example/sentencia/sentencia/StatementType" "CALLABLE" "Lcom/example/sentencia/sentencia/StatementType;" (.ref w2)) :
    Ct l Z ELx a0 true (⟨"com/example/sentencia/sentencia/StatementAttributesWithFetchSizePinLaw", "pickType", "(I)Lcom/example/sentencia/sentencia/StatementType;"⟩ : MethodName) method_2_code 2 (some (.object "com/example/sentencia/sentencia/StatementType")) [] ({ frames := 0, cells := 0, slots := 0, locals := 0 } : Room) #[(.int p1)] h0 [] (fun v h => v = some (.ref (own_pt p1 w0 w1 w2)) ∧ h0 = h) := by
  refine own_enter (plainFor_of_name pn_5) hE O0 ?_
  intro p e s m below meth c s₁ hx hby hml hown hnm hret hlk H0
  refine Go.eq (ef_rm_pt m p1) ?_
  show Go p e below _ s₁ (mkF m 0 #[.val (.int p1), .unset] [])
  refine Go.of (fun _ => XS.iloadN H0.here hx rfl (hb hby d_2_0) rfl) ?_
  show Go p e below _ s₁ (mkF m 1 #[.val (.int p1), .unset] [(.int p1)])
  refine own_ldcI H0 hx hown (ow hw 4 rfl) rfl (hb hby d_2_1) ?_
  show Go p e below _ s₁ (mkF m 3 #[.val (.int p1), .unset] [(.int (2147483647 : Int32)), (.int p1)])
  refine Go.of (fun _ => XS.iand H0.here hx rfl (hb hby d_2_3) rfl) ?_
  show Go p e below _ s₁ (mkF m 4 #[.val (.int p1), .unset] [(.int (p1 &&& (2147483647 : Int32)))])
  refine Go.of (fun _ => XS.iconst H0.here hx rfl (hb hby d_2_4)) ?_
  show Go p e below _ s₁ (mkF m 5 #[.val (.int p1), .unset] [(.int (3 : Int32)), (.int (p1 &&& (2147483647 : Int32)))])
  refine own_irem H0 hx rfl (hb hby d_2_5) rfl (by decide) ?_
  show Go p e below _ s₁ (mkF m 6 #[.val (.int p1), .unset] [(.int ((p1 &&& (2147483647 : Int32)) % (3 : Int32)))])
  refine Go.of (fun _ => XS.istoreN H0.here hx rfl (hb hby d_2_6) rfl (l' := #[.val (.int p1), .val (.int ((p1 &&& (2147483647 : Int32)) % (3 : Int32)))]) rfl) ?_
  show Go p e below _ s₁ (mkF m 7 #[.val (.int p1), .val (.int ((p1 &&& (2147483647 : Int32)) % (3 : Int32)))] [])
  refine Go.of (fun _ => XS.iloadN H0.here hx rfl (hb hby d_2_7) rfl) ?_
  show Go p e below _ s₁ (mkF m 8 #[.val (.int p1), .val (.int ((p1 &&& (2147483647 : Int32)) % (3 : Int32)))] [(.int ((p1 &&& (2147483647 : Int32)) % (3 : Int32)))])
  by_cases hc1 : ((p1 &&& (2147483647 : Int32)) % (3 : Int32)) = (0 : Int32)
  · skip
    refine Go.of (fun _ => XS.ifNo H0.here hx rfl (hb hby d_2_8) rfl ((if0 _ _).trans (teq hc1).2)) ?_
    show Go p e below _ s₁ (mkF m 11 #[.val (.int p1), .val (.int ((p1 &&& (2147483647 : Int32)) % (3 : Int32)))] [])
    refine own_getS H0 hx hown (host := "") (Or.inl (ow hw 5 rfl)) Via.refl Sw0 rfl (hb hby d_2_11) fun T2 H3 => ?_
    show Go p e below _ T2 (mkF m 14 #[.val (.int p1), .val (.int ((p1 &&& (2147483647 : Int32)) % (3 : Int32)))] [(.ref w0)])
    exact own_retA H3 hx hlk hret rfl rfl (hb hby d_2_14) ⟨by unfold own_pt; rw [if_pos hc1], rfl⟩ (by decide) (by decide)
  · skip
    refine Go.of (fun _ => XS.ifYes H0.here hx rfl (pc0 := 8) (pc' := 15) rfl (hb hby d_2_8) rfl ((if0 _ _).trans (feq hc1).2) (by decide) (by decide)) ?_
    show Go p e below _ s₁ (mkF m 15 #[.val (.int p1), .val (.int ((p1 &&& (2147483647 : Int32)) % (3 : Int32)))] [])
    refine Go.of (fun _ => XS.iloadN H0.here hx rfl (hb hby d_2_15) rfl) ?_
    show Go p e below _ s₁ (mkF m 16 #[.val (.int p1), .val (.int ((p1 &&& (2147483647 : Int32)) % (3 : Int32)))] [(.int ((p1 &&& (2147483647 : Int32)) % (3 : Int32)))])
    refine Go.of (fun _ => XS.iconst H0.here hx rfl (hb hby d_2_16)) ?_
    show Go p e below _ s₁ (mkF m 17 #[.val (.int p1), .val (.int ((p1 &&& (2147483647 : Int32)) % (3 : Int32)))] [(.int (1 : Int32)), (.int ((p1 &&& (2147483647 : Int32)) % (3 : Int32)))])
    by_cases hc4 : ((p1 &&& (2147483647 : Int32)) % (3 : Int32)) = (1 : Int32)
    · skip
      refine Go.of (fun _ => XS.icmpNo H0.here hx rfl (hb hby d_2_17) rfl (teq hc4).2) ?_
      show Go p e below _ s₁ (mkF m 20 #[.val (.int p1), .val (.int ((p1 &&& (2147483647 : Int32)) % (3 : Int32)))] [])
      refine own_getS H0 hx hown (host := "") (Or.inl (ow hw 100 rfl)) Via.refl Sw1 rfl (hb hby d_2_20) fun T5 H6 => ?_
      show Go p e below _ T5 (mkF m 23 #[.val (.int p1), .val (.int ((p1 &&& (2147483647 : Int32)) % (3 : Int32)))] [(.ref w1)])
      exact own_retA H6 hx hlk hret rfl rfl (hb hby d_2_23) ⟨by unfold own_pt; rw [if_neg hc1, if_pos hc4], rfl⟩ (by decide) (by decide)
    · skip
      refine Go.of (fun _ => XS.icmpYes H0.here hx rfl (pc0 := 17) (pc' := 24) rfl (hb hby d_2_17) rfl (feq hc4).2 (by decide) (by decide)) ?_
      show Go p e below _ s₁ (mkF m 24 #[.val (.int p1), .val (.int ((p1 &&& (2147483647 : Int32)) % (3 : Int32)))] [])
      refine own_getS H0 hx hown (host := "") (Or.inl (ow hw 104 rfl)) Via.refl Sw2 rfl (hb hby d_2_24) fun T7 H8 => ?_
      show Go p e below _ T7 (mkF m 27 #[.val (.int p1), .val (.int ((p1 &&& (2147483647 : Int32)) % (3 : Int32)))] [(.ref w2)])
      exact own_retA H8 hx hlk hret rfl rfl (hb hby d_2_27) ⟨by unfold own_pt; rw [if_neg hc1, if_neg hc4], rfl⟩ (by decide) (by decide)
set_option maxRecDepth 65536 in
set_option maxHeartbeats 40000000 in
theorem rm_pr (l : Launch) (Z : State) (a0 : Array Value) (hw : ∀ d ∈ tables_1, d.before a0 Z = true) (hE : EW Z a0 ELx) (p1 : Int32) (v0 : Addr) (v1 : Addr) (v2 : Addr) (v3 : Addr) (h0 : Heap) (O0 : Ext Z.heap h0) (Sv0 : Sta Z Z.heap "com/example/sentencia/sentencia/ResultSetType" "FORWARD_ONLY" "Lcom/example/sentencia/sentencia/ResultSetType;" (.ref v0)) (Sv1 : Sta Z Z.heap "com/example/sentencia/sentencia/ResultSetType" "SCROLL_INSENSITIVE" "Lcom/example/sentencia/sentencia/ResultSetType;" (.ref v1)) (Sv2 : Sta Z Z.heap "com/example/sentencia/sentencia/ResultSetType" "SCROLL_SENSITIVE" "Lcom/example/sentencia/sentencia/ResultSetType;" (.ref v2)) (Sv3 : Sta Z Z.heap "com/example/sentencia/sentencia/ResultSetType" "DEFAULT" "Lcom/example/sentencia/sentencia/ResultSetType;" (.ref v3)) :
    Ct l Z ELx a0 true (⟨"com/example/sentencia/sentencia/StatementAttributesWithFetchSizePinLaw", "pickRs", "(I)Lcom/example/sentencia/sentencia/ResultSetType;"⟩ : MethodName) method_3_code 2 (some (.object "com/example/sentencia/sentencia/ResultSetType")) [] ({ frames := 0, cells := 0, slots := 0, locals := 0 } : Room) #[(.int p1)] h0 [] (fun v h => v = some (.ref (own_pr p1 v0 v1 v2 v3)) ∧ h0 = h) := by
  refine own_enter (plainFor_of_name pn_5) hE O0 ?_
  intro p e s m below meth c s₁ hx hby hml hown hnm hret hlk H0
  refine Go.eq (ef_rm_pr m p1) ?_
  show Go p e below _ s₁ (mkF m 0 #[.val (.int p1), .unset] [])
  refine Go.of (fun _ => XS.iloadN H0.here hx rfl (hb hby d_3_0) rfl) ?_
  show Go p e below _ s₁ (mkF m 1 #[.val (.int p1), .unset] [(.int p1)])
  refine Go.of (fun _ => XS.iconst H0.here hx rfl (hb hby d_3_1)) ?_
  show Go p e below _ s₁ (mkF m 2 #[.val (.int p1), .unset] [(.int (3 : Int32)), (.int p1)])
  refine Go.of (fun _ => XS.iand H0.here hx rfl (hb hby d_3_2) rfl) ?_
  show Go p e below _ s₁ (mkF m 3 #[.val (.int p1), .unset] [(.int (p1 &&& (3 : Int32)))])
  refine Go.of (fun _ => XS.istoreN H0.here hx rfl (hb hby d_3_3) rfl (l' := #[.val (.int p1), .val (.int (p1 &&& (3 : Int32)))]) rfl) ?_
  show Go p e below _ s₁ (mkF m 4 #[.val (.int p1), .val (.int (p1 &&& (3 : Int32)))] [])
  refine Go.of (fun _ => XS.iloadN H0.here hx rfl (hb hby d_3_4) rfl) ?_
  show Go p e below _ s₁ (mkF m 5 #[.val (.int p1), .val (.int (p1 &&& (3 : Int32)))] [(.int (p1 &&& (3 : Int32)))])
  by_cases hc1 : (p1 &&& (3 : Int32)) = (0 : Int32)
  · skip
    refine Go.of (fun _ => XS.ifNo H0.here hx rfl (hb hby d_3_5) rfl ((if0 _ _).trans (teq hc1).2)) ?_
    show Go p e below _ s₁ (mkF m 8 #[.val (.int p1), .val (.int (p1 &&& (3 : Int32)))] [])
    refine own_getS H0 hx hown (host := "") (Or.inl (ow hw 122 rfl)) Via.refl Sv0 rfl (hb hby d_3_8) fun T2 H3 => ?_
    show Go p e below _ T2 (mkF m 11 #[.val (.int p1), .val (.int (p1 &&& (3 : Int32)))] [(.ref v0)])
    exact own_retA H3 hx hlk hret rfl rfl (hb hby d_3_11) ⟨by unfold own_pr; rw [if_pos hc1], rfl⟩ (by decide) (by decide)
  · skip
    refine Go.of (fun _ => XS.ifYes H0.here hx rfl (pc0 := 5) (pc' := 12) rfl (hb hby d_3_5) rfl ((if0 _ _).trans (feq hc1).2) (by decide) (by decide)) ?_
    show Go p e below _ s₁ (mkF m 12 #[.val (.int p1), .val (.int (p1 &&& (3 : Int32)))] [])
    refine Go.of (fun _ => XS.iloadN H0.here hx rfl (hb hby d_3_12) rfl) ?_
    show Go p e below _ s₁ (mkF m 13 #[.val (.int p1), .val (.int (p1 &&& (3 : Int32)))] [(.int (p1 &&& (3 : Int32)))])
    refine Go.of (fun _ => XS.iconst H0.here hx rfl (hb hby d_3_13)) ?_
    show Go p e below _ s₁ (mkF m 14 #[.val (.int p1), .val (.int (p1 &&& (3 : Int32)))] [(.int (1 : Int32)), (.int (p1 &&& (3 : Int32)))])
    by_cases hc4 : (p1 &&& (3 : Int32)) = (1 : Int32)
    · skip
      refine Go.of (fun _ => XS.icmpNo H0.here hx rfl (hb hby d_3_14) rfl (teq hc4).2) ?_
      show Go p e below _ s₁ (mkF m 17 #[.val (.int p1), .val (.int (p1 &&& (3 : Int32)))] [])
      refine own_getS H0 hx hown (host := "") (Or.inl (ow hw 106 rfl)) Via.refl Sv1 rfl (hb hby d_3_17) fun T5 H6 => ?_
      show Go p e below _ T5 (mkF m 20 #[.val (.int p1), .val (.int (p1 &&& (3 : Int32)))] [(.ref v1)])
      exact own_retA H6 hx hlk hret rfl rfl (hb hby d_3_20) ⟨by unfold own_pr; rw [if_neg hc1, if_pos hc4], rfl⟩ (by decide) (by decide)
    · skip
      refine Go.of (fun _ => XS.icmpYes H0.here hx rfl (pc0 := 14) (pc' := 21) rfl (hb hby d_3_14) rfl (feq hc4).2 (by decide) (by decide)) ?_
      show Go p e below _ s₁ (mkF m 21 #[.val (.int p1), .val (.int (p1 &&& (3 : Int32)))] [])
      refine Go.of (fun _ => XS.iloadN H0.here hx rfl (hb hby d_3_21) rfl) ?_
      show Go p e below _ s₁ (mkF m 22 #[.val (.int p1), .val (.int (p1 &&& (3 : Int32)))] [(.int (p1 &&& (3 : Int32)))])
      refine Go.of (fun _ => XS.iconst H0.here hx rfl (hb hby d_3_22)) ?_
      show Go p e below _ s₁ (mkF m 23 #[.val (.int p1), .val (.int (p1 &&& (3 : Int32)))] [(.int (2 : Int32)), (.int (p1 &&& (3 : Int32)))])
      by_cases hc7 : (p1 &&& (3 : Int32)) = (2 : Int32)
      · skip
        refine Go.of (fun _ => XS.icmpNo H0.here hx rfl (hb hby d_3_23) rfl (teq hc7).2) ?_
        show Go p e below _ s₁ (mkF m 26 #[.val (.int p1), .val (.int (p1 &&& (3 : Int32)))] [])
        refine own_getS H0 hx hown (host := "") (Or.inl (ow hw 102 rfl)) Via.refl Sv2 rfl (hb hby d_3_26) fun T8 H9 => ?_
        show Go p e below _ T8 (mkF m 29 #[.val (.int p1), .val (.int (p1 &&& (3 : Int32)))] [(.ref v2)])
        exact own_retA H9 hx hlk hret rfl rfl (hb hby d_3_29) ⟨by unfold own_pr; rw [if_neg hc1, if_neg hc4, if_pos hc7], rfl⟩ (by decide) (by decide)
      · skip
        refine Go.of (fun _ => XS.icmpYes H0.here hx rfl (pc0 := 23) (pc' := 30) rfl (hb hby d_3_23) rfl (feq hc7).2 (by decide) (by decide)) ?_
        show Go p e below _ s₁ (mkF m 30 #[.val (.int p1), .val (.int (p1 &&& (3 : Int32)))] [])
        refine own_getS H0 hx hown (host := "") (Or.inl (ow hw 11 rfl)) Via.refl Sv3 rfl (hb hby d_3_30) fun T10 H11 => ?_
        show Go p e below _ T10 (mkF m 33 #[.val (.int p1), .val (.int (p1 &&& (3 : Int32)))] [(.ref v3)])
        exact own_retA H11 hx hlk hret rfl rfl (hb hby d_3_33) ⟨by unfold own_pr; rw [if_neg hc1, if_neg hc4, if_neg hc7], rfl⟩ (by decide) (by decide)
set_option maxRecDepth 65536 in
set_option maxHeartbeats 40000000 in
theorem rm_law (l : Launch) (Z : State) (a0 : Array Value) (hw : ∀ d ∈ tables_1, d.before a0 Z = true) (hE : EW Z a0 ELx) (p0 : Int32) (p1 : Int32) (p2 : Int32) (p3 : Int32) (p4 : Int32) (p5 : Int32) (w0 : Addr) (w1 : Addr) (w2 : Addr) (v0 : Addr) (v1 : Addr) (v2 : Addr) (v3 : Addr) (ca : Addr) (cl : Cell) (h0 : Heap) (O0 : Ext Z.heap h0) (Sw0 : Sta Z Z.heap "com/example/sentencia/sentencia/StatementType" "STATEMENT" "Lcom/example/sentencia/sentencia/StatementType;" (.ref w0)) (Sw1 : Sta Z Z.heap "com/example/sentencia/sentencia/StatementType" "PREPARED" "Lcom/example/sentencia/sentencia/StatementType;" (.ref w1)) (Sw2 : Sta Z Z.heap "com/example/sentencia/sentencia/StatementType" "CALLABLE" "Lcom/example/sentencia/sentencia/StatementType;" (.ref w2)) (Sv0 : Sta Z Z.heap "com/example/sentencia/sentencia/ResultSetType" "FORWARD_ONLY" "Lcom/example/sentencia/sentencia/ResultSetType;" (.ref v0)) (Sv1 : Sta Z Z.heap "com/example/sentencia/sentencia/ResultSetType" "SCROLL_INSENSITIVE" "Lcom/example/sentencia/sentencia/ResultSetType;" (.ref v1)) (Sv2 : Sta Z Z.heap "com/example/sentencia/sentencia/ResultSetType" "SCROLL_SENSITIVE" "Lcom/example/sentencia/sentencia/ResultSetType;" (.ref v2)) (Sv3 : Sta Z Z.heap "com/example/sentencia/sentencia/ResultSetType" "DEFAULT" "Lcom/example/sentencia/sentencia/ResultSetType;" (.ref v3)) (SH : Sta Z Z.heap "java/lang/Integer$IntegerCache" "high" "I" (.int 127)) (SCa : Sta Z Z.heap "java/lang/Integer$IntegerCache" "cache" "[Ljava/lang/Integer;" (.ref ca)) (BX : Bxs Z ca cl "java/lang/Integer" "I" 256 (fun j => .int (j - 128))) :
    Ct l Z ELx a0 true x code maxLocals ret tables_1 room_1 #[(.int p0), (.int p1), (.int p2), (.int p3), (.int p4), (.int p5)] h0 [] (fun v h => v = some (.int 1)) := by
  refine own_enter (plainFor_of_name pn_5) hE O0 ?_
  intro p e s m below meth c s₁ hx hby hml hown hnm hret hlk H0
  have hml : c.maxLocals = 17 := hml
  have hret : meth.sig.returnType = (some .boolean) := hret
  refine Go.eq (ef_rm_law m p0 p1 p2 p3 p4 p5) ?_
  have hst := own_hst hw
  show Go p e below _ s₁ (mkF m 0 #[.val (.int p0), .val (.int p1), .val (.int p2), .val (.int p3), .val (.int p4), .val (.int p5), .unset, .unset, .unset, .unset, .unset, .unset, .unset, .unset, .unset, .unset, .unset] [])
  refine Go.of (fun _ => XS.iloadN H0.here hx rfl (hb hby at_0) rfl) ?_
  show Go p e below _ s₁ (mkF m 1 #[.val (.int p0), .val (.int p1), .val (.int p2), .val (.int p3), .val (.int p4), .val (.int p5), .unset, .unset, .unset, .unset, .unset, .unset, .unset, .unset, .unset, .unset, .unset] [(.int p1)])
  refine own_staticW H0 hx (y := (⟨"com/example/sentencia/sentencia/StatementAttributesWithFetchSizePinLaw", "pickType", "(I)Lcom/example/sentencia/sentencia/StatementType;"⟩ : MethodName)) hown (ow hw 0 rfl) (ow hw 1 rfl) (ow hw 2 rfl) (ow hw 3 rfl) (by decide) (W := 0) (rm_pt l Z a0 hw hE p1 w0 w1 w2 h0 H0.old Sw0 Sw1 Sw2) (fun _ hq => nomatch hq) (by decide) (by decide) rfl (by rw [hml]; rfl) (argsL := [(.int p1)]) (rest := []) rfl (lenOf pd_6 rfl) rfl (by show 2 * 0 + _ ≤ _; exact Nat.le_of_eq rfl) (hb hby at_1) (by decide) (by decide) fun T1 h3 v5 H2 hs6 q4 => ?_
  obtain ⟨ve8, e7⟩ := q4
  subst e7
  subst ve8
  show Go p e below _ T1 (mkF m 4 #[.val (.int p0), .val (.int p1), .val (.int p2), .val (.int p3), .val (.int p4), .val (.int p5), .unset, .unset, .unset, .unset, .unset, .unset, .unset, .unset, .unset, .unset, .unset] [(.ref (own_pt p1 w0 w1 w2))])
  refine Go.of (fun _ => XS.astore H2.here hx rfl (hb hby at_4) rfl rfl (l' := #[.val (.int p0), .val (.int p1), .val (.int p2), .val (.int p3), .val (.int p4), .val (.int p5), .val (.ref (own_pt p1 w0 w1 w2)), .unset, .unset, .unset, .unset, .unset, .unset, .unset, .unset, .unset, .unset]) rfl) ?_
  show Go p e below _ T1 (mkF m 6 #[.val (.int p0), .val (.int p1), .val (.int p2), .val (.int p3), .val (.int p4), .val (.int p5), .val (.ref (own_pt p1 w0 w1 w2)), .unset, .unset, .unset, .unset, .unset, .unset, .unset, .unset, .unset, .unset] [])
  refine Go.of (fun _ => XS.iload H2.here hx rfl (hb hby at_6) rfl) ?_
  show Go p e below _ T1 (mkF m 8 #[.val (.int p0), .val (.int p1), .val (.int p2), .val (.int p3), .val (.int p4), .val (.int p5), .val (.ref (own_pt p1 w0 w1 w2)), .unset, .unset, .unset, .unset, .unset, .unset, .unset, .unset, .unset, .unset] [(.int p5)])
  refine own_staticW H2 hx (y := (⟨"com/example/sentencia/sentencia/StatementAttributesWithFetchSizePinLaw", "pickRs", "(I)Lcom/example/sentencia/sentencia/ResultSetType;"⟩ : MethodName)) hown (ow hw 8 rfl) (ow hw 9 rfl) (ow hw 2 rfl) (ow hw 10 rfl) (by decide) (W := 0) (rm_pr l Z a0 hw hE p5 v0 v1 v2 v3 h0 H2.old Sv0 Sv1 Sv2 Sv3) (fun _ hq => nomatch hq) (by decide) (by decide) rfl (by rw [hml]; rfl) (argsL := [(.int p5)]) (rest := []) rfl (lenOf pd_7 rfl) rfl (by show 2 * 0 + _ ≤ _; exact Nat.le_of_eq rfl) (hb hby at_8) (by decide) (by decide) fun T9 h11 v13 H10 hs14 q12 => ?_
  obtain ⟨ve16, e15⟩ := q12
  subst e15
  subst ve16
  show Go p e below _ T9 (mkF m 11 #[.val (.int p0), .val (.int p1), .val (.int p2), .val (.int p3), .val (.int p4), .val (.int p5), .val (.ref (own_pt p1 w0 w1 w2)), .unset, .unset, .unset, .unset, .unset, .unset, .unset, .unset, .unset, .unset] [(.ref (own_pr p5 v0 v1 v2 v3))])
  refine Go.of (fun _ => XS.astore H10.here hx rfl (hb hby at_11) rfl rfl (l' := #[.val (.int p0), .val (.int p1), .val (.int p2), .val (.int p3), .val (.int p4), .val (.int p5), .val (.ref (own_pt p1 w0 w1 w2)), .val (.ref (own_pr p5 v0 v1 v2 v3)), .unset, .unset, .unset, .unset, .unset, .unset, .unset, .unset, .unset]) rfl) ?_
  show Go p e below _ T9 (mkF m 13 #[.val (.int p0), .val (.int p1), .val (.int p2), .val (.int p3), .val (.int p4), .val (.int p5), .val (.ref (own_pt p1 w0 w1 w2)), .val (.ref (own_pr p5 v0 v1 v2 v3)), .unset, .unset, .unset, .unset, .unset, .unset, .unset, .unset, .unset] [])
  have J61_17 : ∀ (T18 : State) (h19 : Heap) (f0 : Value) (to : Value) (fl : Int32), (Wk p l e room_1 s m #[(.int p0), (.int p1), (.int p2), (.int p3), (.int p4), (.int p5)] below meth c Z ELx a0 true T18 h19 2 2 []) → (own_ob Z h19 f0) → (own_ob Z h19 to) → (fl = 0 ∨ fl = 1) → Go p e below (own_fin Z ELx true s below (fun v h => v = some (.int 1)) (room_1).cells (room_1).slots) T18 (mkF m 61 #[.val (.int p0), .val (.int p1), .val (.int p2), .val (.int p3), .val (.int p4), .val (.int p5), .val (.ref (own_pt p1 w0 w1 w2)), .val (.ref (own_pr p5 v0 v1 v2 v3)), .val f0, .val to, .val (.int fl), .unset, .unset, .unset, .unset, .unset, .unset] []) := by
    intro T18 h19 f0 to fl H20 Bf Bo hfl
    show Go p e below _ T18 (mkF m 61 #[.val (.int p0), .val (.int p1), .val (.int p2), .val (.int p3), .val (.int p4), .val (.int p5), .val (.ref (own_pt p1 w0 w1 w2)), .val (.ref (own_pr p5 v0 v1 v2 v3)), .val f0, .val to, .val (.int fl), .unset, .unset, .unset, .unset, .unset, .unset] [])
    refine own_new H20 hx hown (ow hw 14 rfl) (ow hw 15 rfl) (ow hw 16 rfl) rfl (hb hby at_61) (by decide) (by decide) fun T21 h23 b24 g25 H22 E26 A27 D28 => ?_
    have fr29 : Z.heap.size ≤ b24 := by rw [g25]; exact H20.old.1
    have B30 := Bf.ext E26
    have B31 := Bo.ext E26
    have f32 : Fld Z h23 b24 "com/example/sentencia/sentencia/StatementAttributes" "type" "Lcom/example/sentencia/sentencia/StatementType;" .null := D28 (Or.inr (ow hw 42 rfl)) (ty := (.object "com/example/sentencia/sentencia/StatementType")) (by decide)
    have f33 : Fld Z h23 b24 "com/example/sentencia/sentencia/StatementAttributes" "resultSetType" "Lcom/example/sentencia/sentencia/ResultSetType;" .null := D28 (Or.inr (ow hw 44 rfl)) (ty := (.object "com/example/sentencia/sentencia/ResultSetType")) (by decide)
    have f34 : Fld Z h23 b24 "com/example/sentencia/sentencia/StatementAttributes" "fetchSize" "Ljava/lang/Integer;" .null := D28 (Or.inr (ow hw 46 rfl)) (ty := (.object "java/lang/Integer")) (by decide)
    have f35 : Fld Z h23 b24 "com/example/sentencia/sentencia/StatementAttributes" "timeout" "Ljava/lang/Integer;" .null := D28 (Or.inr (ow hw 48 rfl)) (ty := (.object "java/lang/Integer")) (by decide)
    have f36 : Fld Z h23 b24 "com/example/sentencia/sentencia/StatementAttributes" "flushCache" "Z" (.int (0 : Int32)) := D28 (Or.inr (ow hw 50 rfl)) (ty := .boolean) (by decide)
    show Go p e below _ T21 (mkF m 64 #[.val (.int p0), .val (.int p1), .val (.int p2), .val (.int p3), .val (.int p4), .val (.int p5), .val (.ref (own_pt p1 w0 w1 w2)), .val (.ref (own_pr p5 v0 v1 v2 v3)), .val f0, .val to, .val (.int fl), .unset, .unset, .unset, .unset, .unset, .unset] [(.ref b24)])
    refine Go.of (fun _ => XS.dup H22.here hx rfl (hb hby at_64) rfl rfl) ?_
    show Go p e below _ T21 (mkF m 65 #[.val (.int p0), .val (.int p1), .val (.int p2), .val (.int p3), .val (.int p4), .val (.int p5), .val (.ref (own_pt p1 w0 w1 w2)), .val (.ref (own_pr p5 v0 v1 v2 v3)), .val f0, .val to, .val (.int fl), .unset, .unset, .unset, .unset, .unset, .unset] [(.ref b24), (.ref b24)])
    refine Go.of (fun _ => XS.aload H22.here hx rfl (hb hby at_65) rfl rfl) ?_
    show Go p e below _ T21 (mkF m 67 #[.val (.int p0), .val (.int p1), .val (.int p2), .val (.int p3), .val (.int p4), .val (.int p5), .val (.ref (own_pt p1 w0 w1 w2)), .val (.ref (own_pr p5 v0 v1 v2 v3)), .val f0, .val to, .val (.int fl), .unset, .unset, .unset, .unset, .unset, .unset] [(.ref (own_pt p1 w0 w1 w2)), (.ref b24), (.ref b24)])
    refine Go.of (fun _ => XS.aload H22.here hx rfl (hb hby at_67) rfl rfl) ?_
    show Go p e below _ T21 (mkF m 69 #[.val (.int p0), .val (.int p1), .val (.int p2), .val (.int p3), .val (.int p4), .val (.int p5), .val (.ref (own_pt p1 w0 w1 w2)), .val (.ref (own_pr p5 v0 v1 v2 v3)), .val f0, .val to, .val (.int fl), .unset, .unset, .unset, .unset, .unset, .unset] [(.ref (own_pr p5 v0 v1 v2 v3)), (.ref (own_pt p1 w0 w1 w2)), (.ref b24), (.ref b24)])
    refine Go.of (fun _ => XS.aload H22.here hx rfl (hb hby at_69) rfl Bf.ref) ?_
    show Go p e below _ T21 (mkF m 71 #[.val (.int p0), .val (.int p1), .val (.int p2), .val (.int p3), .val (.int p4), .val (.int p5), .val (.ref (own_pt p1 w0 w1 w2)), .val (.ref (own_pr p5 v0 v1 v2 v3)), .val f0, .val to, .val (.int fl), .unset, .unset, .unset, .unset, .unset, .unset] [f0, (.ref (own_pr p5 v0 v1 v2 v3)), (.ref (own_pt p1 w0 w1 w2)), (.ref b24), (.ref b24)])
    refine Go.of (fun _ => XS.aload H22.here hx rfl (hb hby at_71) rfl Bo.ref) ?_
    show Go p e below _ T21 (mkF m 73 #[.val (.int p0), .val (.int p1), .val (.int p2), .val (.int p3), .val (.int p4), .val (.int p5), .val (.ref (own_pt p1 w0 w1 w2)), .val (.ref (own_pr p5 v0 v1 v2 v3)), .val f0, .val to, .val (.int fl), .unset, .unset, .unset, .unset, .unset, .unset] [to, f0, (.ref (own_pr p5 v0 v1 v2 v3)), (.ref (own_pt p1 w0 w1 w2)), (.ref b24), (.ref b24)])
    refine Go.of (fun _ => XS.iload H22.here hx rfl (hb hby at_73) rfl) ?_
    show Go p e below _ T21 (mkF m 75 #[.val (.int p0), .val (.int p1), .val (.int p2), .val (.int p3), .val (.int p4), .val (.int p5), .val (.ref (own_pt p1 w0 w1 w2)), .val (.ref (own_pr p5 v0 v1 v2 v3)), .val f0, .val to, .val (.int fl), .unset, .unset, .unset, .unset, .unset, .unset] [(.int fl), to, f0, (.ref (own_pr p5 v0 v1 v2 v3)), (.ref (own_pt p1 w0 w1 w2)), (.ref b24), (.ref b24)])
    refine own_specialW H22 hx (y := (⟨"com/example/sentencia/sentencia/StatementAttributes", "<init>", "(Lcom/example/sentencia/sentencia/StatementType;Lcom/example/sentencia/sentencia/ResultSetType;Ljava/lang/Integer;Ljava/lang/Integer;Z)V"⟩ : MethodName)) rfl hown (ow hw 17 rfl) (ow hw 18 rfl) (ow hw 16 rfl) (ow hw 19 rfl) (by decide) (W := 1) (rm_si l Z a0 hw hE b24 (own_pt p1 w0 w1 w2) (own_pr p5 v0 v1 v2 v3) f0 to fl h23 H22.old Bf.ref Bo.ref hfl A27 f32 f33 f34 f35 f36 fr29) (fun _ hq => nomatch hq) (by decide) (by decide) rfl (by rw [hml]; rfl) (a := b24) (argsL := [(.ref (own_pt p1 w0 w1 w2)), (.ref (own_pr p5 v0 v1 v2 v3)), f0, to, (.int fl)]) (rest := [(.ref b24)]) rfl (lenOf pd_4 rfl) rfl (by show 2 * 0 + _ ≤ _; exact Nat.le_of_eq rfl) (hb hby at_75) (by decide) (by decide) fun T37 h39 v41 H38 hs42 q40 => ?_
    obtain ⟨rfl, K43, E44, F45, F46, F47, F48, F49⟩ := q40
    have B50 := B30.keep K43 (allS ⟨_, A27, by decide⟩ all0)
    have B51 := B31.keep K43 (allS ⟨_, A27, by decide⟩ all0)
    have f52 := A27.keep K43
    show Go p e below _ T37 (mkF m 78 #[.val (.int p0), .val (.int p1), .val (.int p2), .val (.int p3), .val (.int p4), .val (.int p5), .val (.ref (own_pt p1 w0 w1 w2)), .val (.ref (own_pr p5 v0 v1 v2 v3)), .val f0, .val to, .val (.int fl), .unset, .unset, .unset, .unset, .unset, .unset] [(.ref b24)])
    refine Go.of (fun _ => XS.astore H38.here hx rfl (hb hby at_78) rfl rfl (l' := #[.val (.int p0), .val (.int p1), .val (.int p2), .val (.int p3), .val (.int p4), .val (.int p5), .val (.ref (own_pt p1 w0 w1 w2)), .val (.ref (own_pr p5 v0 v1 v2 v3)), .val f0, .val to, .val (.int fl), .val (.ref b24), .unset, .unset, .unset, .unset, .unset]) rfl) ?_
    show Go p e below _ T37 (mkF m 80 #[.val (.int p0), .val (.int p1), .val (.int p2), .val (.int p3), .val (.int p4), .val (.int p5), .val (.ref (own_pt p1 w0 w1 w2)), .val (.ref (own_pr p5 v0 v1 v2 v3)), .val f0, .val to, .val (.int fl), .val (.ref b24), .unset, .unset, .unset, .unset, .unset] [])
    refine Go.of (fun _ => XS.aload H38.here hx rfl (hb hby at_80) rfl rfl) ?_
    show Go p e below _ T37 (mkF m 82 #[.val (.int p0), .val (.int p1), .val (.int p2), .val (.int p3), .val (.int p4), .val (.int p5), .val (.ref (own_pt p1 w0 w1 w2)), .val (.ref (own_pr p5 v0 v1 v2 v3)), .val f0, .val to, .val (.int fl), .val (.ref b24), .unset, .unset, .unset, .unset, .unset] [(.ref b24)])
    refine Go.of (fun _ => XS.iloadN H38.here hx rfl (hb hby at_82) rfl) ?_
    show Go p e below _ T37 (mkF m 83 #[.val (.int p0), .val (.int p1), .val (.int p2), .val (.int p3), .val (.int p4), .val (.int p5), .val (.ref (own_pt p1 w0 w1 w2)), .val (.ref (own_pr p5 v0 v1 v2 v3)), .val f0, .val to, .val (.int fl), .val (.ref b24), .unset, .unset, .unset, .unset, .unset] [(.int p0), (.ref b24)])
    refine own_virtualW H38 hx (y := (⟨"com/example/sentencia/sentencia/StatementAttributes", "withFetchSize", "(I)Lcom/example/sentencia/sentencia/StatementAttributes;"⟩ : MethodName)) (z := (⟨"com/example/sentencia/sentencia/StatementAttributes", "withFetchSize", "(I)Lcom/example/sentencia/sentencia/StatementAttributes;"⟩ : MethodName)) hown (ow hw 51 rfl) (ow hw 52 rfl) (own_nf (ow hw 54 rfl) rfl) (ow hw 54 rfl) (ow hw 53 rfl) (ow hw 16 rfl) (ow hw 55 rfl) (by decide) (W := 0) (rm_wf l Z a0 hw hE b24 p0 (own_pt p1 w0 w1 w2) (own_pr p5 v0 v1 v2 v3) f0 to fl ca cl h39 H38.old SH SCa BX Bf.ref Bo.ref hfl E44 F45 F46 F47 F48 F49) (fun _ hq => nomatch hq) (by decide) (by decide) E44 rfl (by rw [hml]; rfl) (argsL := [(.int p0)]) (rest := []) rfl (lenOf pd_8 rfl) rfl (by show 2 * 0 + _ ≤ _; exact Nat.le_of_eq rfl) (hb hby at_83) (by decide) (by decide) fun T58 h60 v62 H59 hs63 q61 => ?_
    obtain ⟨wb, wx, rfl, K64, z65, E66, F67, F68, F69, F70, F71, B72⟩ := q61
    have f73 := E44.keep K64
    have f74 := F45.keep K64 nin0
    have f75 := F46.keep K64 nin0
    have f76 := F47.keep K64 nin0
    have f77 := F48.keep K64 nin0
    have f78 := F49.keep K64 nin0
    have B79 := B50.keep K64 all0
    have B80 := B51.keep K64 all0
    show Go p e below _ T58 (mkF m 86 #[.val (.int p0), .val (.int p1), .val (.int p2), .val (.int p3), .val (.int p4), .val (.int p5), .val (.ref (own_pt p1 w0 w1 w2)), .val (.ref (own_pr p5 v0 v1 v2 v3)), .val f0, .val to, .val (.int fl), .val (.ref b24), .unset, .unset, .unset, .unset, .unset] [(.ref wb)])
    refine Go.of (fun _ => XS.astore H59.here hx rfl (hb hby at_86) rfl rfl (l' := #[.val (.int p0), .val (.int p1), .val (.int p2), .val (.int p3), .val (.int p4), .val (.int p5), .val (.ref (own_pt p1 w0 w1 w2)), .val (.ref (own_pr p5 v0 v1 v2 v3)), .val f0, .val to, .val (.int fl), .val (.ref b24), .val (.ref wb), .unset, .unset, .unset, .unset]) rfl) ?_
    show Go p e below _ T58 (mkF m 88 #[.val (.int p0), .val (.int p1), .val (.int p2), .val (.int p3), .val (.int p4), .val (.int p5), .val (.ref (own_pt p1 w0 w1 w2)), .val (.ref (own_pr p5 v0 v1 v2 v3)), .val f0, .val to, .val (.int fl), .val (.ref b24), .val (.ref wb), .unset, .unset, .unset, .unset] [])
    refine Go.of (fun _ => XS.aload H59.here hx rfl (hb hby at_88) rfl rfl) ?_
    show Go p e below _ T58 (mkF m 90 #[.val (.int p0), .val (.int p1), .val (.int p2), .val (.int p3), .val (.int p4), .val (.int p5), .val (.ref (own_pt p1 w0 w1 w2)), .val (.ref (own_pr p5 v0 v1 v2 v3)), .val f0, .val to, .val (.int fl), .val (.ref b24), .val (.ref wb), .unset, .unset, .unset, .unset] [(.ref wb)])
    refine Go.of (fun _ => XS.ifnonnullYes H59.here hx rfl (pc0 := 90) (pc' := 95) rfl (hb hby at_90) rfl (by decide) (by decide)) ?_
    show Go p e below _ T58 (mkF m 95 #[.val (.int p0), .val (.int p1), .val (.int p2), .val (.int p3), .val (.int p4), .val (.int p5), .val (.ref (own_pt p1 w0 w1 w2)), .val (.ref (own_pr p5 v0 v1 v2 v3)), .val f0, .val to, .val (.int fl), .val (.ref b24), .val (.ref wb), .unset, .unset, .unset, .unset] [])
    refine Go.of (fun _ => XS.aload H59.here hx rfl (hb hby at_95) rfl rfl) ?_
    show Go p e below _ T58 (mkF m 97 #[.val (.int p0), .val (.int p1), .val (.int p2), .val (.int p3), .val (.int p4), .val (.int p5), .val (.ref (own_pt p1 w0 w1 w2)), .val (.ref (own_pr p5 v0 v1 v2 v3)), .val f0, .val to, .val (.int fl), .val (.ref b24), .val (.ref wb), .unset, .unset, .unset, .unset] [(.ref wb)])
    refine own_virtualW H59 hx (y := (⟨"com/example/sentencia/sentencia/StatementAttributes", "fetchSize", "()Ljava/lang/Integer;"⟩ : MethodName)) (z := (⟨"com/example/sentencia/sentencia/StatementAttributes", "fetchSize", "()Ljava/lang/Integer;"⟩ : MethodName)) hown (ow hw 65 rfl) (ow hw 66 rfl) (own_nf (ow hw 68 rfl) rfl) (ow hw 68 rfl) (ow hw 67 rfl) (ow hw 16 rfl) (ow hw 69 rfl) (by decide) (W := 0) (rm_fetchSize l Z a0 hw hE wb (.ref wx) h60 H59.old rfl F69) (fun _ hq => nomatch hq) (by decide) (by decide) E66 rfl (by rw [hml]; rfl) (argsL := []) (rest := []) rfl (lenOf pd_9 rfl) rfl (by show 2 * 0 + _ ≤ _; exact Nat.le_of_eq rfl) (hb hby at_97) (by decide) (by decide) fun T81 h83 v85 H82 hs86 q84 => ?_
    obtain ⟨ve88, e87⟩ := q84
    subst e87
    subst ve88
    show Go p e below _ T81 (mkF m 100 #[.val (.int p0), .val (.int p1), .val (.int p2), .val (.int p3), .val (.int p4), .val (.int p5), .val (.ref (own_pt p1 w0 w1 w2)), .val (.ref (own_pr p5 v0 v1 v2 v3)), .val f0, .val to, .val (.int fl), .val (.ref b24), .val (.ref wb), .unset, .unset, .unset, .unset] [(.ref wx)])
    refine Go.of (fun _ => XS.astore H82.here hx rfl (hb hby at_100) rfl rfl (l' := #[.val (.int p0), .val (.int p1), .val (.int p2), .val (.int p3), .val (.int p4), .val (.int p5), .val (.ref (own_pt p1 w0 w1 w2)), .val (.ref (own_pr p5 v0 v1 v2 v3)), .val f0, .val to, .val (.int fl), .val (.ref b24), .val (.ref wb), .val (.ref wx), .unset, .unset, .unset]) rfl) ?_
    show Go p e below _ T81 (mkF m 102 #[.val (.int p0), .val (.int p1), .val (.int p2), .val (.int p3), .val (.int p4), .val (.int p5), .val (.ref (own_pt p1 w0 w1 w2)), .val (.ref (own_pr p5 v0 v1 v2 v3)), .val f0, .val to, .val (.int fl), .val (.ref b24), .val (.ref wb), .val (.ref wx), .unset, .unset, .unset] [])
    refine Go.of (fun _ => XS.aload H82.here hx rfl (hb hby at_102) rfl rfl) ?_
    show Go p e below _ T81 (mkF m 104 #[.val (.int p0), .val (.int p1), .val (.int p2), .val (.int p3), .val (.int p4), .val (.int p5), .val (.ref (own_pt p1 w0 w1 w2)), .val (.ref (own_pr p5 v0 v1 v2 v3)), .val f0, .val to, .val (.int fl), .val (.ref b24), .val (.ref wb), .val (.ref wx), .unset, .unset, .unset] [(.ref wx)])
    refine Go.of (fun _ => XS.ifnullNo H82.here hx rfl (hb hby at_104) rfl) ?_
    show Go p e below _ T81 (mkF m 107 #[.val (.int p0), .val (.int p1), .val (.int p2), .val (.int p3), .val (.int p4), .val (.int p5), .val (.ref (own_pt p1 w0 w1 w2)), .val (.ref (own_pr p5 v0 v1 v2 v3)), .val f0, .val to, .val (.int fl), .val (.ref b24), .val (.ref wb), .val (.ref wx), .unset, .unset, .unset] [])
    refine Go.of (fun _ => XS.aload H82.here hx rfl (hb hby at_107) rfl rfl) ?_
    show Go p e below _ T81 (mkF m 109 #[.val (.int p0), .val (.int p1), .val (.int p2), .val (.int p3), .val (.int p4), .val (.int p5), .val (.ref (own_pt p1 w0 w1 w2)), .val (.ref (own_pr p5 v0 v1 v2 v3)), .val f0, .val to, .val (.int fl), .val (.ref b24), .val (.ref wb), .val (.ref wx), .unset, .unset, .unset] [(.ref wx)])
    refine own_virtualW H82 hx (y := (⟨"java/lang/Integer", "intValue", "()I"⟩ : MethodName)) (z := (⟨"java/lang/Integer", "intValue", "()I"⟩ : MethodName)) hown (ow hw 70 rfl) (ow hw 71 rfl) (own_nf (ow hw 73 rfl) rfl) (ow hw 73 rfl) (ow hw 72 rfl) (ow hw 59 rfl) (ow hw 74 rfl) (by decide) (W := 0) (rm_iv l Z a0 hw hE wx p0 h60 H82.old B72.2) (fun _ hq => nomatch hq) (by decide) (by decide) B72.1 rfl (by rw [hml]; rfl) (argsL := []) (rest := []) rfl (lenOf pd_5 rfl) rfl (by show 2 * 0 + _ ≤ _; exact Nat.le_of_eq rfl) (hb hby at_109) (by decide) (by decide) fun T89 h91 v93 H90 hs94 q92 => ?_
    obtain ⟨ve96, e95⟩ := q92
    subst e95
    subst ve96
    show Go p e below _ T89 (mkF m 112 #[.val (.int p0), .val (.int p1), .val (.int p2), .val (.int p3), .val (.int p4), .val (.int p5), .val (.ref (own_pt p1 w0 w1 w2)), .val (.ref (own_pr p5 v0 v1 v2 v3)), .val f0, .val to, .val (.int fl), .val (.ref b24), .val (.ref wb), .val (.ref wx), .unset, .unset, .unset] [(.int p0)])
    refine Go.of (fun _ => XS.iloadN H90.here hx rfl (hb hby at_112) rfl) ?_
    show Go p e below _ T89 (mkF m 113 #[.val (.int p0), .val (.int p1), .val (.int p2), .val (.int p3), .val (.int p4), .val (.int p5), .val (.ref (own_pt p1 w0 w1 w2)), .val (.ref (own_pr p5 v0 v1 v2 v3)), .val f0, .val to, .val (.int fl), .val (.ref b24), .val (.ref wb), .val (.ref wx), .unset, .unset, .unset] [(.int p0), (.int p0)])
    refine Go.of (fun _ => XS.icmpNo H90.here hx rfl (hb hby at_113) rfl (teq rfl).2) ?_
    show Go p e below _ T89 (mkF m 116 #[.val (.int p0), .val (.int p1), .val (.int p2), .val (.int p3), .val (.int p4), .val (.int p5), .val (.ref (own_pt p1 w0 w1 w2)), .val (.ref (own_pr p5 v0 v1 v2 v3)), .val f0, .val to, .val (.int fl), .val (.ref b24), .val (.ref wb), .val (.ref wx), .unset, .unset, .unset] [])
    refine Go.of (fun _ => XS.iconst H90.here hx rfl (hb hby at_116)) ?_
    show Go p e below _ T89 (mkF m 117 #[.val (.int p0), .val (.int p1), .val (.int p2), .val (.int p3), .val (.int p4), .val (.int p5), .val (.ref (own_pt p1 w0 w1 w2)), .val (.ref (own_pr p5 v0 v1 v2 v3)), .val f0, .val to, .val (.int fl), .val (.ref b24), .val (.ref wb), .val (.ref wx), .unset, .unset, .unset] [(.int (1 : Int32))])
    refine Go.of (fun _ => XS.goto H90.here hx rfl (pc0 := 117) (pc' := 121) rfl (hb hby at_117) (by decide) (by decide)) ?_
    show Go p e below _ T89 (mkF m 121 #[.val (.int p0), .val (.int p1), .val (.int p2), .val (.int p3), .val (.int p4), .val (.int p5), .val (.ref (own_pt p1 w0 w1 w2)), .val (.ref (own_pr p5 v0 v1 v2 v3)), .val f0, .val to, .val (.int fl), .val (.ref b24), .val (.ref wb), .val (.ref wx), .unset, .unset, .unset] [(.int (1 : Int32))])
    refine Go.of (fun _ => XS.istore H90.here hx rfl (hb hby at_121) rfl (l' := #[.val (.int p0), .val (.int p1), .val (.int p2), .val (.int p3), .val (.int p4), .val (.int p5), .val (.ref (own_pt p1 w0 w1 w2)), .val (.ref (own_pr p5 v0 v1 v2 v3)), .val f0, .val to, .val (.int fl), .val (.ref b24), .val (.ref wb), .val (.ref wx), .val (.int (1 : Int32)), .unset, .unset]) rfl) ?_
    show Go p e below _ T89 (mkF m 123 #[.val (.int p0), .val (.int p1), .val (.int p2), .val (.int p3), .val (.int p4), .val (.int p5), .val (.ref (own_pt p1 w0 w1 w2)), .val (.ref (own_pr p5 v0 v1 v2 v3)), .val f0, .val to, .val (.int fl), .val (.ref b24), .val (.ref wb), .val (.ref wx), .val (.int (1 : Int32)), .unset, .unset] [])
    refine Go.of (fun _ => XS.aload H90.here hx rfl (hb hby at_123) rfl rfl) ?_
    show Go p e below _ T89 (mkF m 125 #[.val (.int p0), .val (.int p1), .val (.int p2), .val (.int p3), .val (.int p4), .val (.int p5), .val (.ref (own_pt p1 w0 w1 w2)), .val (.ref (own_pr p5 v0 v1 v2 v3)), .val f0, .val to, .val (.int fl), .val (.ref b24), .val (.ref wb), .val (.ref wx), .val (.int (1 : Int32)), .unset, .unset] [(.ref wb)])
    refine own_virtualW H90 hx (y := (⟨"com/example/sentencia/sentencia/StatementAttributes", "type", "()Lcom/example/sentencia/sentencia/StatementType;"⟩ : MethodName)) (z := (⟨"com/example/sentencia/sentencia/StatementAttributes", "type", "()Lcom/example/sentencia/sentencia/StatementType;"⟩ : MethodName)) hown (ow hw 77 rfl) (ow hw 78 rfl) (own_nf (ow hw 80 rfl) rfl) (ow hw 80 rfl) (ow hw 79 rfl) (ow hw 16 rfl) (ow hw 81 rfl) (by decide) (W := 0) (rm_type l Z a0 hw hE wb (own_pt p1 w0 w1 w2) h60 H90.old F67) (fun _ hq => nomatch hq) (by decide) (by decide) E66 rfl (by rw [hml]; rfl) (argsL := []) (rest := []) rfl (lenOf pd_10 rfl) rfl (by show 2 * 0 + _ ≤ _; exact Nat.le_of_eq rfl) (hb hby at_125) (by decide) (by decide) fun T97 h99 v101 H98 hs102 q100 => ?_
    obtain ⟨ve104, e103⟩ := q100
    subst e103
    subst ve104
    show Go p e below _ T97 (mkF m 128 #[.val (.int p0), .val (.int p1), .val (.int p2), .val (.int p3), .val (.int p4), .val (.int p5), .val (.ref (own_pt p1 w0 w1 w2)), .val (.ref (own_pr p5 v0 v1 v2 v3)), .val f0, .val to, .val (.int fl), .val (.ref b24), .val (.ref wb), .val (.ref wx), .val (.int (1 : Int32)), .unset, .unset] [(.ref (own_pt p1 w0 w1 w2))])
    refine Go.of (fun _ => XS.aload H98.here hx rfl (hb hby at_128) rfl rfl) ?_
    show Go p e below _ T97 (mkF m 130 #[.val (.int p0), .val (.int p1), .val (.int p2), .val (.int p3), .val (.int p4), .val (.int p5), .val (.ref (own_pt p1 w0 w1 w2)), .val (.ref (own_pr p5 v0 v1 v2 v3)), .val f0, .val to, .val (.int fl), .val (.ref b24), .val (.ref wb), .val (.ref wx), .val (.int (1 : Int32)), .unset, .unset] [(.ref (own_pt p1 w0 w1 w2)), (.ref (own_pt p1 w0 w1 w2))])
    refine Go.of (fun _ => Jvm.Free.XT.acmpNo H98.here hx rfl (hb hby at_130) rfl rfl rfl (own_acNf rfl)) ?_
    show Go p e below _ T97 (mkF m 133 #[.val (.int p0), .val (.int p1), .val (.int p2), .val (.int p3), .val (.int p4), .val (.int p5), .val (.ref (own_pt p1 w0 w1 w2)), .val (.ref (own_pr p5 v0 v1 v2 v3)), .val f0, .val to, .val (.int fl), .val (.ref b24), .val (.ref wb), .val (.ref wx), .val (.int (1 : Int32)), .unset, .unset] [])
    refine Go.of (fun _ => XS.aload H98.here hx rfl (hb hby at_133) rfl rfl) ?_
    show Go p e below _ T97 (mkF m 135 #[.val (.int p0), .val (.int p1), .val (.int p2), .val (.int p3), .val (.int p4), .val (.int p5), .val (.ref (own_pt p1 w0 w1 w2)), .val (.ref (own_pr p5 v0 v1 v2 v3)), .val f0, .val to, .val (.int fl), .val (.ref b24), .val (.ref wb), .val (.ref wx), .val (.int (1 : Int32)), .unset, .unset] [(.ref wb)])
    refine own_virtualW H98 hx (y := (⟨"com/example/sentencia/sentencia/StatementAttributes", "resultSetType", "()Lcom/example/sentencia/sentencia/ResultSetType;"⟩ : MethodName)) (z := (⟨"com/example/sentencia/sentencia/StatementAttributes", "resultSetType", "()Lcom/example/sentencia/sentencia/ResultSetType;"⟩ : MethodName)) hown (ow hw 82 rfl) (ow hw 83 rfl) (own_nf (ow hw 85 rfl) rfl) (ow hw 85 rfl) (ow hw 84 rfl) (ow hw 16 rfl) (ow hw 86 rfl) (by decide) (W := 0) (rm_resultSetType l Z a0 hw hE wb (own_pr p5 v0 v1 v2 v3) h60 H98.old F68) (fun _ hq => nomatch hq) (by decide) (by decide) E66 rfl (by rw [hml]; rfl) (argsL := []) (rest := []) rfl (lenOf pd_11 rfl) rfl (by show 2 * 0 + _ ≤ _; exact Nat.le_of_eq rfl) (hb hby at_135) (by decide) (by decide) fun T105 h107 v109 H106 hs110 q108 => ?_
    obtain ⟨ve112, e111⟩ := q108
    subst e111
    subst ve112
    show Go p e below _ T105 (mkF m 138 #[.val (.int p0), .val (.int p1), .val (.int p2), .val (.int p3), .val (.int p4), .val (.int p5), .val (.ref (own_pt p1 w0 w1 w2)), .val (.ref (own_pr p5 v0 v1 v2 v3)), .val f0, .val to, .val (.int fl), .val (.ref b24), .val (.ref wb), .val (.ref wx), .val (.int (1 : Int32)), .unset, .unset] [(.ref (own_pr p5 v0 v1 v2 v3))])
    refine Go.of (fun _ => XS.aload H106.here hx rfl (hb hby at_138) rfl rfl) ?_
    show Go p e below _ T105 (mkF m 140 #[.val (.int p0), .val (.int p1), .val (.int p2), .val (.int p3), .val (.int p4), .val (.int p5), .val (.ref (own_pt p1 w0 w1 w2)), .val (.ref (own_pr p5 v0 v1 v2 v3)), .val f0, .val to, .val (.int fl), .val (.ref b24), .val (.ref wb), .val (.ref wx), .val (.int (1 : Int32)), .unset, .unset] [(.ref (own_pr p5 v0 v1 v2 v3)), (.ref (own_pr p5 v0 v1 v2 v3))])
    refine Go.of (fun _ => Jvm.Free.XT.acmpNo H106.here hx rfl (hb hby at_140) rfl rfl rfl (own_acNf rfl)) ?_
    show Go p e below _ T105 (mkF m 143 #[.val (.int p0), .val (.int p1), .val (.int p2), .val (.int p3), .val (.int p4), .val (.int p5), .val (.ref (own_pt p1 w0 w1 w2)), .val (.ref (own_pr p5 v0 v1 v2 v3)), .val f0, .val to, .val (.int fl), .val (.ref b24), .val (.ref wb), .val (.ref wx), .val (.int (1 : Int32)), .unset, .unset] [])
    refine Go.of (fun _ => XS.aload H106.here hx rfl (hb hby at_143) rfl rfl) ?_
    show Go p e below _ T105 (mkF m 145 #[.val (.int p0), .val (.int p1), .val (.int p2), .val (.int p3), .val (.int p4), .val (.int p5), .val (.ref (own_pt p1 w0 w1 w2)), .val (.ref (own_pr p5 v0 v1 v2 v3)), .val f0, .val to, .val (.int fl), .val (.ref b24), .val (.ref wb), .val (.ref wx), .val (.int (1 : Int32)), .unset, .unset] [(.ref wb)])
    refine own_virtualW H106 hx (y := (⟨"com/example/sentencia/sentencia/StatementAttributes", "timeout", "()Ljava/lang/Integer;"⟩ : MethodName)) (z := (⟨"com/example/sentencia/sentencia/StatementAttributes", "timeout", "()Ljava/lang/Integer;"⟩ : MethodName)) hown (ow hw 87 rfl) (ow hw 88 rfl) (own_nf (ow hw 90 rfl) rfl) (ow hw 90 rfl) (ow hw 89 rfl) (ow hw 16 rfl) (ow hw 91 rfl) (by decide) (W := 0) (rm_timeout l Z a0 hw hE wb to h60 H106.old Bo.ref F70) (fun _ hq => nomatch hq) (by decide) (by decide) E66 rfl (by rw [hml]; rfl) (argsL := []) (rest := []) rfl (lenOf pd_9 rfl) rfl (by show 2 * 0 + _ ≤ _; exact Nat.le_of_eq rfl) (hb hby at_145) (by decide) (by decide) fun T113 h115 v117 H114 hs118 q116 => ?_
    obtain ⟨ve120, e119⟩ := q116
    subst e119
    subst ve120
    show Go p e below _ T113 (mkF m 148 #[.val (.int p0), .val (.int p1), .val (.int p2), .val (.int p3), .val (.int p4), .val (.int p5), .val (.ref (own_pt p1 w0 w1 w2)), .val (.ref (own_pr p5 v0 v1 v2 v3)), .val f0, .val to, .val (.int fl), .val (.ref b24), .val (.ref wb), .val (.ref wx), .val (.int (1 : Int32)), .unset, .unset] [to])
    refine Go.of (fun _ => XS.aload H114.here hx rfl (hb hby at_148) rfl Bo.ref) ?_
    show Go p e below _ T113 (mkF m 150 #[.val (.int p0), .val (.int p1), .val (.int p2), .val (.int p3), .val (.int p4), .val (.int p5), .val (.ref (own_pt p1 w0 w1 w2)), .val (.ref (own_pr p5 v0 v1 v2 v3)), .val f0, .val to, .val (.int fl), .val (.ref b24), .val (.ref wb), .val (.ref wx), .val (.int (1 : Int32)), .unset, .unset] [to, to])
    refine own_staticW H114 hx (y := (⟨"com/example/sentencia/sentencia/StatementAttributesWithFetchSizePinLaw", "sameInt", "(Ljava/lang/Integer;Ljava/lang/Integer;)Z"⟩ : MethodName)) hown (ow hw 92 rfl) (ow hw 93 rfl) (ow hw 2 rfl) (ow hw 94 rfl) (by decide) (W := 0) (rm_sm l Z a0 hw hE to h60 H114.old Bo.ref B80) (fun _ hq => nomatch hq) (by decide) (by decide) rfl (by rw [hml]; rfl) (argsL := [to, to]) (rest := []) rfl (lenOf pd_12 rfl) rfl (by show 2 * 0 + _ ≤ _; exact Nat.le_of_eq rfl) (hb hby at_150) (by decide) (by decide) fun T121 h123 v125 H122 hs126 q124 => ?_
    obtain ⟨ve128, e127⟩ := q124
    subst e127
    subst ve128
    show Go p e below _ T121 (mkF m 153 #[.val (.int p0), .val (.int p1), .val (.int p2), .val (.int p3), .val (.int p4), .val (.int p5), .val (.ref (own_pt p1 w0 w1 w2)), .val (.ref (own_pr p5 v0 v1 v2 v3)), .val f0, .val to, .val (.int fl), .val (.ref b24), .val (.ref wb), .val (.ref wx), .val (.int (1 : Int32)), .unset, .unset] [(.int (1 : Int32))])
    refine Go.of (fun _ => XS.ifNo H122.here hx rfl (hb hby at_153) rfl ((if0 _ _).trans (feq (by decide : ¬ ((1 : Int32) = (0 : Int32)))).1)) ?_
    show Go p e below _ T121 (mkF m 156 #[.val (.int p0), .val (.int p1), .val (.int p2), .val (.int p3), .val (.int p4), .val (.int p5), .val (.ref (own_pt p1 w0 w1 w2)), .val (.ref (own_pr p5 v0 v1 v2 v3)), .val f0, .val to, .val (.int fl), .val (.ref b24), .val (.ref wb), .val (.ref wx), .val (.int (1 : Int32)), .unset, .unset] [])
    refine Go.of (fun _ => XS.aload H122.here hx rfl (hb hby at_156) rfl rfl) ?_
    show Go p e below _ T121 (mkF m 158 #[.val (.int p0), .val (.int p1), .val (.int p2), .val (.int p3), .val (.int p4), .val (.int p5), .val (.ref (own_pt p1 w0 w1 w2)), .val (.ref (own_pr p5 v0 v1 v2 v3)), .val f0, .val to, .val (.int fl), .val (.ref b24), .val (.ref wb), .val (.ref wx), .val (.int (1 : Int32)), .unset, .unset] [(.ref wb)])
    refine own_virtualW H122 hx (y := (⟨"com/example/sentencia/sentencia/StatementAttributes", "flushCache", "()Z"⟩ : MethodName)) (z := (⟨"com/example/sentencia/sentencia/StatementAttributes", "flushCache", "()Z"⟩ : MethodName)) hown (ow hw 95 rfl) (ow hw 96 rfl) (own_nf (ow hw 98 rfl) rfl) (ow hw 98 rfl) (ow hw 97 rfl) (ow hw 16 rfl) (ow hw 99 rfl) (by decide) (W := 0) (rm_flushCache l Z a0 hw hE wb fl h60 H122.old hfl F71) (fun _ hq => nomatch hq) (by decide) (by decide) E66 rfl (by rw [hml]; rfl) (argsL := []) (rest := []) rfl (lenOf pd_13 rfl) rfl (by show 2 * 0 + _ ≤ _; exact Nat.le_of_eq rfl) (hb hby at_158) (by decide) (by decide) fun T129 h131 v133 H130 hs134 q132 => ?_
    obtain ⟨ve136, e135⟩ := q132
    subst e135
    subst ve136
    show Go p e below _ T129 (mkF m 161 #[.val (.int p0), .val (.int p1), .val (.int p2), .val (.int p3), .val (.int p4), .val (.int p5), .val (.ref (own_pt p1 w0 w1 w2)), .val (.ref (own_pr p5 v0 v1 v2 v3)), .val f0, .val to, .val (.int fl), .val (.ref b24), .val (.ref wb), .val (.ref wx), .val (.int (1 : Int32)), .unset, .unset] [(.int fl)])
    refine Go.of (fun _ => XS.iload H130.here hx rfl (hb hby at_161) rfl) ?_
    show Go p e below _ T129 (mkF m 163 #[.val (.int p0), .val (.int p1), .val (.int p2), .val (.int p3), .val (.int p4), .val (.int p5), .val (.ref (own_pt p1 w0 w1 w2)), .val (.ref (own_pr p5 v0 v1 v2 v3)), .val f0, .val to, .val (.int fl), .val (.ref b24), .val (.ref wb), .val (.ref wx), .val (.int (1 : Int32)), .unset, .unset] [(.int fl), (.int fl)])
    refine Go.of (fun _ => XS.icmpNo H130.here hx rfl (hb hby at_163) rfl (teq rfl).2) ?_
    show Go p e below _ T129 (mkF m 166 #[.val (.int p0), .val (.int p1), .val (.int p2), .val (.int p3), .val (.int p4), .val (.int p5), .val (.ref (own_pt p1 w0 w1 w2)), .val (.ref (own_pr p5 v0 v1 v2 v3)), .val f0, .val to, .val (.int fl), .val (.ref b24), .val (.ref wb), .val (.ref wx), .val (.int (1 : Int32)), .unset, .unset] [])
    refine Go.of (fun _ => XS.iconst H130.here hx rfl (hb hby at_166)) ?_
    show Go p e below _ T129 (mkF m 167 #[.val (.int p0), .val (.int p1), .val (.int p2), .val (.int p3), .val (.int p4), .val (.int p5), .val (.ref (own_pt p1 w0 w1 w2)), .val (.ref (own_pr p5 v0 v1 v2 v3)), .val f0, .val to, .val (.int fl), .val (.ref b24), .val (.ref wb), .val (.ref wx), .val (.int (1 : Int32)), .unset, .unset] [(.int (1 : Int32))])
    refine Go.of (fun _ => XS.goto H130.here hx rfl (pc0 := 167) (pc' := 171) rfl (hb hby at_167) (by decide) (by decide)) ?_
    show Go p e below _ T129 (mkF m 171 #[.val (.int p0), .val (.int p1), .val (.int p2), .val (.int p3), .val (.int p4), .val (.int p5), .val (.ref (own_pt p1 w0 w1 w2)), .val (.ref (own_pr p5 v0 v1 v2 v3)), .val f0, .val to, .val (.int fl), .val (.ref b24), .val (.ref wb), .val (.ref wx), .val (.int (1 : Int32)), .unset, .unset] [(.int (1 : Int32))])
    refine Go.of (fun _ => XS.istore H130.here hx rfl (hb hby at_171) rfl (l' := #[.val (.int p0), .val (.int p1), .val (.int p2), .val (.int p3), .val (.int p4), .val (.int p5), .val (.ref (own_pt p1 w0 w1 w2)), .val (.ref (own_pr p5 v0 v1 v2 v3)), .val f0, .val to, .val (.int fl), .val (.ref b24), .val (.ref wb), .val (.ref wx), .val (.int (1 : Int32)), .val (.int (1 : Int32)), .unset]) rfl) ?_
    show Go p e below _ T129 (mkF m 173 #[.val (.int p0), .val (.int p1), .val (.int p2), .val (.int p3), .val (.int p4), .val (.int p5), .val (.ref (own_pt p1 w0 w1 w2)), .val (.ref (own_pr p5 v0 v1 v2 v3)), .val f0, .val to, .val (.int fl), .val (.ref b24), .val (.ref wb), .val (.ref wx), .val (.int (1 : Int32)), .val (.int (1 : Int32)), .unset] [])
    refine Go.of (fun _ => XS.aload H130.here hx rfl (hb hby at_173) rfl rfl) ?_
    show Go p e below _ T129 (mkF m 175 #[.val (.int p0), .val (.int p1), .val (.int p2), .val (.int p3), .val (.int p4), .val (.int p5), .val (.ref (own_pt p1 w0 w1 w2)), .val (.ref (own_pr p5 v0 v1 v2 v3)), .val f0, .val to, .val (.int fl), .val (.ref b24), .val (.ref wb), .val (.ref wx), .val (.int (1 : Int32)), .val (.int (1 : Int32)), .unset] [(.ref b24)])
    refine own_virtualW H130 hx (y := (⟨"com/example/sentencia/sentencia/StatementAttributes", "fetchSize", "()Ljava/lang/Integer;"⟩ : MethodName)) (z := (⟨"com/example/sentencia/sentencia/StatementAttributes", "fetchSize", "()Ljava/lang/Integer;"⟩ : MethodName)) hown (ow hw 65 rfl) (ow hw 66 rfl) (own_nf (ow hw 68 rfl) rfl) (ow hw 68 rfl) (ow hw 67 rfl) (ow hw 16 rfl) (ow hw 69 rfl) (by decide) (W := 0) (rm_fetchSize l Z a0 hw hE b24 f0 h60 H130.old Bf.ref f76) (fun _ hq => nomatch hq) (by decide) (by decide) f73 rfl (by rw [hml]; rfl) (argsL := []) (rest := []) rfl (lenOf pd_9 rfl) rfl (by show 2 * 0 + _ ≤ _; exact Nat.le_of_eq rfl) (hb hby at_175) (by decide) (by decide) fun T137 h139 v141 H138 hs142 q140 => ?_
    obtain ⟨ve144, e143⟩ := q140
    subst e143
    subst ve144
    show Go p e below _ T137 (mkF m 178 #[.val (.int p0), .val (.int p1), .val (.int p2), .val (.int p3), .val (.int p4), .val (.int p5), .val (.ref (own_pt p1 w0 w1 w2)), .val (.ref (own_pr p5 v0 v1 v2 v3)), .val f0, .val to, .val (.int fl), .val (.ref b24), .val (.ref wb), .val (.ref wx), .val (.int (1 : Int32)), .val (.int (1 : Int32)), .unset] [f0])
    refine Go.of (fun _ => XS.aload H138.here hx rfl (hb hby at_178) rfl Bf.ref) ?_
    show Go p e below _ T137 (mkF m 180 #[.val (.int p0), .val (.int p1), .val (.int p2), .val (.int p3), .val (.int p4), .val (.int p5), .val (.ref (own_pt p1 w0 w1 w2)), .val (.ref (own_pr p5 v0 v1 v2 v3)), .val f0, .val to, .val (.int fl), .val (.ref b24), .val (.ref wb), .val (.ref wx), .val (.int (1 : Int32)), .val (.int (1 : Int32)), .unset] [f0, f0])
    refine own_staticW H138 hx (y := (⟨"com/example/sentencia/sentencia/StatementAttributesWithFetchSizePinLaw", "sameInt", "(Ljava/lang/Integer;Ljava/lang/Integer;)Z"⟩ : MethodName)) hown (ow hw 92 rfl) (ow hw 93 rfl) (ow hw 2 rfl) (ow hw 94 rfl) (by decide) (W := 0) (rm_sm l Z a0 hw hE f0 h60 H138.old Bf.ref B79) (fun _ hq => nomatch hq) (by decide) (by decide) rfl (by rw [hml]; rfl) (argsL := [f0, f0]) (rest := []) rfl (lenOf pd_12 rfl) rfl (by show 2 * 0 + _ ≤ _; exact Nat.le_of_eq rfl) (hb hby at_180) (by decide) (by decide) fun T145 h147 v149 H146 hs150 q148 => ?_
    obtain ⟨ve152, e151⟩ := q148
    subst e151
    subst ve152
    show Go p e below _ T145 (mkF m 183 #[.val (.int p0), .val (.int p1), .val (.int p2), .val (.int p3), .val (.int p4), .val (.int p5), .val (.ref (own_pt p1 w0 w1 w2)), .val (.ref (own_pr p5 v0 v1 v2 v3)), .val f0, .val to, .val (.int fl), .val (.ref b24), .val (.ref wb), .val (.ref wx), .val (.int (1 : Int32)), .val (.int (1 : Int32)), .unset] [(.int (1 : Int32))])
    refine Go.of (fun _ => XS.istore H146.here hx rfl (hb hby at_183) rfl (l' := #[.val (.int p0), .val (.int p1), .val (.int p2), .val (.int p3), .val (.int p4), .val (.int p5), .val (.ref (own_pt p1 w0 w1 w2)), .val (.ref (own_pr p5 v0 v1 v2 v3)), .val f0, .val to, .val (.int fl), .val (.ref b24), .val (.ref wb), .val (.ref wx), .val (.int (1 : Int32)), .val (.int (1 : Int32)), .val (.int (1 : Int32))]) rfl) ?_
    show Go p e below _ T145 (mkF m 185 #[.val (.int p0), .val (.int p1), .val (.int p2), .val (.int p3), .val (.int p4), .val (.int p5), .val (.ref (own_pt p1 w0 w1 w2)), .val (.ref (own_pr p5 v0 v1 v2 v3)), .val f0, .val to, .val (.int fl), .val (.ref b24), .val (.ref wb), .val (.ref wx), .val (.int (1 : Int32)), .val (.int (1 : Int32)), .val (.int (1 : Int32))] [])
    refine Go.of (fun _ => XS.iload H146.here hx rfl (hb hby at_185) rfl) ?_
    show Go p e below _ T145 (mkF m 187 #[.val (.int p0), .val (.int p1), .val (.int p2), .val (.int p3), .val (.int p4), .val (.int p5), .val (.ref (own_pt p1 w0 w1 w2)), .val (.ref (own_pr p5 v0 v1 v2 v3)), .val f0, .val to, .val (.int fl), .val (.ref b24), .val (.ref wb), .val (.ref wx), .val (.int (1 : Int32)), .val (.int (1 : Int32)), .val (.int (1 : Int32))] [(.int (1 : Int32))])
    refine Go.of (fun _ => XS.ifNo H146.here hx rfl (hb hby at_187) rfl ((if0 _ _).trans (feq (by decide : ¬ ((1 : Int32) = (0 : Int32)))).1)) ?_
    show Go p e below _ T145 (mkF m 190 #[.val (.int p0), .val (.int p1), .val (.int p2), .val (.int p3), .val (.int p4), .val (.int p5), .val (.ref (own_pt p1 w0 w1 w2)), .val (.ref (own_pr p5 v0 v1 v2 v3)), .val f0, .val to, .val (.int fl), .val (.ref b24), .val (.ref wb), .val (.ref wx), .val (.int (1 : Int32)), .val (.int (1 : Int32)), .val (.int (1 : Int32))] [])
    refine Go.of (fun _ => XS.iload H146.here hx rfl (hb hby at_190) rfl) ?_
    show Go p e below _ T145 (mkF m 192 #[.val (.int p0), .val (.int p1), .val (.int p2), .val (.int p3), .val (.int p4), .val (.int p5), .val (.ref (own_pt p1 w0 w1 w2)), .val (.ref (own_pr p5 v0 v1 v2 v3)), .val f0, .val to, .val (.int fl), .val (.ref b24), .val (.ref wb), .val (.ref wx), .val (.int (1 : Int32)), .val (.int (1 : Int32)), .val (.int (1 : Int32))] [(.int (1 : Int32))])
    refine Go.of (fun _ => XS.ifNo H146.here hx rfl (hb hby at_192) rfl ((if0 _ _).trans (feq (by decide : ¬ ((1 : Int32) = (0 : Int32)))).1)) ?_
    show Go p e below _ T145 (mkF m 195 #[.val (.int p0), .val (.int p1), .val (.int p2), .val (.int p3), .val (.int p4), .val (.int p5), .val (.ref (own_pt p1 w0 w1 w2)), .val (.ref (own_pr p5 v0 v1 v2 v3)), .val f0, .val to, .val (.int fl), .val (.ref b24), .val (.ref wb), .val (.ref wx), .val (.int (1 : Int32)), .val (.int (1 : Int32)), .val (.int (1 : Int32))] [])
    refine Go.of (fun _ => XS.iload H146.here hx rfl (hb hby at_195) rfl) ?_
    show Go p e below _ T145 (mkF m 197 #[.val (.int p0), .val (.int p1), .val (.int p2), .val (.int p3), .val (.int p4), .val (.int p5), .val (.ref (own_pt p1 w0 w1 w2)), .val (.ref (own_pr p5 v0 v1 v2 v3)), .val f0, .val to, .val (.int fl), .val (.ref b24), .val (.ref wb), .val (.ref wx), .val (.int (1 : Int32)), .val (.int (1 : Int32)), .val (.int (1 : Int32))] [(.int (1 : Int32))])
    refine Go.of (fun _ => XS.ifNo H146.here hx rfl (hb hby at_197) rfl ((if0 _ _).trans (feq (by decide : ¬ ((1 : Int32) = (0 : Int32)))).1)) ?_
    show Go p e below _ T145 (mkF m 200 #[.val (.int p0), .val (.int p1), .val (.int p2), .val (.int p3), .val (.int p4), .val (.int p5), .val (.ref (own_pt p1 w0 w1 w2)), .val (.ref (own_pr p5 v0 v1 v2 v3)), .val f0, .val to, .val (.int fl), .val (.ref b24), .val (.ref wb), .val (.ref wx), .val (.int (1 : Int32)), .val (.int (1 : Int32)), .val (.int (1 : Int32))] [])
    refine Go.of (fun _ => XS.iconst H146.here hx rfl (hb hby at_200)) ?_
    show Go p e below _ T145 (mkF m 201 #[.val (.int p0), .val (.int p1), .val (.int p2), .val (.int p3), .val (.int p4), .val (.int p5), .val (.ref (own_pt p1 w0 w1 w2)), .val (.ref (own_pr p5 v0 v1 v2 v3)), .val f0, .val to, .val (.int fl), .val (.ref b24), .val (.ref wb), .val (.ref wx), .val (.int (1 : Int32)), .val (.int (1 : Int32)), .val (.int (1 : Int32))] [(.int (1 : Int32))])
    refine Go.of (fun _ => XS.goto H146.here hx rfl (pc0 := 201) (pc' := 205) rfl (hb hby at_201) (by decide) (by decide)) ?_
    show Go p e below _ T145 (mkF m 205 #[.val (.int p0), .val (.int p1), .val (.int p2), .val (.int p3), .val (.int p4), .val (.int p5), .val (.ref (own_pt p1 w0 w1 w2)), .val (.ref (own_pr p5 v0 v1 v2 v3)), .val f0, .val to, .val (.int fl), .val (.ref b24), .val (.ref wb), .val (.ref wx), .val (.int (1 : Int32)), .val (.int (1 : Int32)), .val (.int (1 : Int32))] [(.int (1 : Int32))])
    exact own_retN H146 hx hlk (t := .boolean) hret (by simp) (hb hby at_205) rfl (by decide) (by decide)
  have J30_153 : ∀ (T154 : State) (h155 : Heap) (f0 : Value), (Wk p l e room_1 s m #[(.int p0), (.int p1), (.int p2), (.int p3), (.int p4), (.int p5)] below meth c Z ELx a0 true T154 h155 1 1 []) → (own_ob Z h155 f0) → Go p e below (own_fin Z ELx true s below (fun v h => v = some (.int 1)) (room_1).cells (room_1).slots) T154 (mkF m 30 #[.val (.int p0), .val (.int p1), .val (.int p2), .val (.int p3), .val (.int p4), .val (.int p5), .val (.ref (own_pt p1 w0 w1 w2)), .val (.ref (own_pr p5 v0 v1 v2 v3)), .val f0, .unset, .unset, .unset, .unset, .unset, .unset, .unset, .unset] []) := by
    intro T154 h155 f0 H156 Bf
    show Go p e below _ T154 (mkF m 30 #[.val (.int p0), .val (.int p1), .val (.int p2), .val (.int p3), .val (.int p4), .val (.int p5), .val (.ref (own_pt p1 w0 w1 w2)), .val (.ref (own_pr p5 v0 v1 v2 v3)), .val f0, .unset, .unset, .unset, .unset, .unset, .unset, .unset, .unset] [])
    refine Go.of (fun _ => XS.iload H156.here hx rfl (hb hby at_30) rfl) ?_
    show Go p e below _ T154 (mkF m 32 #[.val (.int p0), .val (.int p1), .val (.int p2), .val (.int p3), .val (.int p4), .val (.int p5), .val (.ref (own_pt p1 w0 w1 w2)), .val (.ref (own_pr p5 v0 v1 v2 v3)), .val f0, .unset, .unset, .unset, .unset, .unset, .unset, .unset, .unset] [(.int p4)])
    refine Go.of (fun _ => XS.iconst H156.here hx rfl (hb hby at_32)) ?_
    show Go p e below _ T154 (mkF m 33 #[.val (.int p0), .val (.int p1), .val (.int p2), .val (.int p3), .val (.int p4), .val (.int p5), .val (.ref (own_pt p1 w0 w1 w2)), .val (.ref (own_pr p5 v0 v1 v2 v3)), .val f0, .unset, .unset, .unset, .unset, .unset, .unset, .unset, .unset] [(.int (2 : Int32)), (.int p4)])
    refine Go.of (fun _ => XS.iand H156.here hx rfl (hb hby at_33) rfl) ?_
    show Go p e below _ T154 (mkF m 34 #[.val (.int p0), .val (.int p1), .val (.int p2), .val (.int p3), .val (.int p4), .val (.int p5), .val (.ref (own_pt p1 w0 w1 w2)), .val (.ref (own_pr p5 v0 v1 v2 v3)), .val f0, .unset, .unset, .unset, .unset, .unset, .unset, .unset, .unset] [(.int (p4 &&& (2 : Int32)))])
    by_cases hc157 : (p4 &&& (2 : Int32)) = (0 : Int32)
    · skip
      refine Go.of (fun _ => XS.ifYes H156.here hx rfl (pc0 := 34) (pc' := 44) rfl (hb hby at_34) rfl ((if0 _ _).trans (teq hc157).1) (by decide) (by decide)) ?_
      show Go p e below _ T154 (mkF m 44 #[.val (.int p0), .val (.int p1), .val (.int p2), .val (.int p3), .val (.int p4), .val (.int p5), .val (.ref (own_pt p1 w0 w1 w2)), .val (.ref (own_pr p5 v0 v1 v2 v3)), .val f0, .unset, .unset, .unset, .unset, .unset, .unset, .unset, .unset] [])
      refine Go.of (fun _ => XS.aconstNull H156.here hx rfl (hb hby at_44)) ?_
      show Go p e below _ T154 (mkF m 45 #[.val (.int p0), .val (.int p1), .val (.int p2), .val (.int p3), .val (.int p4), .val (.int p5), .val (.ref (own_pt p1 w0 w1 w2)), .val (.ref (own_pr p5 v0 v1 v2 v3)), .val f0, .unset, .unset, .unset, .unset, .unset, .unset, .unset, .unset] [.null])
      refine Go.of (fun _ => XS.astore H156.here hx rfl (hb hby at_45) rfl rfl (l' := #[.val (.int p0), .val (.int p1), .val (.int p2), .val (.int p3), .val (.int p4), .val (.int p5), .val (.ref (own_pt p1 w0 w1 w2)), .val (.ref (own_pr p5 v0 v1 v2 v3)), .val f0, .val .null, .unset, .unset, .unset, .unset, .unset, .unset, .unset]) rfl) ?_
      show Go p e below _ T154 (mkF m 47 #[.val (.int p0), .val (.int p1), .val (.int p2), .val (.int p3), .val (.int p4), .val (.int p5), .val (.ref (own_pt p1 w0 w1 w2)), .val (.ref (own_pr p5 v0 v1 v2 v3)), .val f0, .val .null, .unset, .unset, .unset, .unset, .unset, .unset, .unset] [])
      refine Go.of (fun _ => XS.iload H156.here hx rfl (hb hby at_47) rfl) ?_
      show Go p e below _ T154 (mkF m 49 #[.val (.int p0), .val (.int p1), .val (.int p2), .val (.int p3), .val (.int p4), .val (.int p5), .val (.ref (own_pt p1 w0 w1 w2)), .val (.ref (own_pr p5 v0 v1 v2 v3)), .val f0, .val .null, .unset, .unset, .unset, .unset, .unset, .unset, .unset] [(.int p4)])
      refine Go.of (fun _ => XS.iconst H156.here hx rfl (hb hby at_49)) ?_
      show Go p e below _ T154 (mkF m 50 #[.val (.int p0), .val (.int p1), .val (.int p2), .val (.int p3), .val (.int p4), .val (.int p5), .val (.ref (own_pt p1 w0 w1 w2)), .val (.ref (own_pr p5 v0 v1 v2 v3)), .val f0, .val .null, .unset, .unset, .unset, .unset, .unset, .unset, .unset] [(.int (4 : Int32)), (.int p4)])
      refine Go.of (fun _ => XS.iand H156.here hx rfl (hb hby at_50) rfl) ?_
      show Go p e below _ T154 (mkF m 51 #[.val (.int p0), .val (.int p1), .val (.int p2), .val (.int p3), .val (.int p4), .val (.int p5), .val (.ref (own_pt p1 w0 w1 w2)), .val (.ref (own_pr p5 v0 v1 v2 v3)), .val f0, .val .null, .unset, .unset, .unset, .unset, .unset, .unset, .unset] [(.int (p4 &&& (4 : Int32)))])
      by_cases hc158 : (p4 &&& (4 : Int32)) = (0 : Int32)
      · skip
        refine Go.of (fun _ => XS.ifYes H156.here hx rfl (pc0 := 51) (pc' := 58) rfl (hb hby at_51) rfl ((if0 _ _).trans (teq hc158).1) (by decide) (by decide)) ?_
        show Go p e below _ T154 (mkF m 58 #[.val (.int p0), .val (.int p1), .val (.int p2), .val (.int p3), .val (.int p4), .val (.int p5), .val (.ref (own_pt p1 w0 w1 w2)), .val (.ref (own_pr p5 v0 v1 v2 v3)), .val f0, .val .null, .unset, .unset, .unset, .unset, .unset, .unset, .unset] [])
        refine Go.of (fun _ => XS.iconst H156.here hx rfl (hb hby at_58)) ?_
        show Go p e below _ T154 (mkF m 59 #[.val (.int p0), .val (.int p1), .val (.int p2), .val (.int p3), .val (.int p4), .val (.int p5), .val (.ref (own_pt p1 w0 w1 w2)), .val (.ref (own_pr p5 v0 v1 v2 v3)), .val f0, .val .null, .unset, .unset, .unset, .unset, .unset, .unset, .unset] [(.int (0 : Int32))])
        refine Go.of (fun _ => XS.istore H156.here hx rfl (hb hby at_59) rfl (l' := #[.val (.int p0), .val (.int p1), .val (.int p2), .val (.int p3), .val (.int p4), .val (.int p5), .val (.ref (own_pt p1 w0 w1 w2)), .val (.ref (own_pr p5 v0 v1 v2 v3)), .val f0, .val .null, .val (.int (0 : Int32)), .unset, .unset, .unset, .unset, .unset, .unset]) rfl) ?_
        show Go p e below _ T154 (mkF m 61 #[.val (.int p0), .val (.int p1), .val (.int p2), .val (.int p3), .val (.int p4), .val (.int p5), .val (.ref (own_pt p1 w0 w1 w2)), .val (.ref (own_pr p5 v0 v1 v2 v3)), .val f0, .val .null, .val (.int (0 : Int32)), .unset, .unset, .unset, .unset, .unset, .unset] [])
        exact J61_17 T154 h155 f0 .null (0 : Int32) ((H156.more (k' := 2) (n' := 2) (by decide) (by decide)).less (fun _ hq => nomatch hq)) Bf (Or.inl rfl) (Or.inl rfl)
      · skip
        refine Go.of (fun _ => XS.ifNo H156.here hx rfl (hb hby at_51) rfl ((if0 _ _).trans (feq hc158).1)) ?_
        show Go p e below _ T154 (mkF m 54 #[.val (.int p0), .val (.int p1), .val (.int p2), .val (.int p3), .val (.int p4), .val (.int p5), .val (.ref (own_pt p1 w0 w1 w2)), .val (.ref (own_pr p5 v0 v1 v2 v3)), .val f0, .val .null, .unset, .unset, .unset, .unset, .unset, .unset, .unset] [])
        refine Go.of (fun _ => XS.iconst H156.here hx rfl (hb hby at_54)) ?_
        show Go p e below _ T154 (mkF m 55 #[.val (.int p0), .val (.int p1), .val (.int p2), .val (.int p3), .val (.int p4), .val (.int p5), .val (.ref (own_pt p1 w0 w1 w2)), .val (.ref (own_pr p5 v0 v1 v2 v3)), .val f0, .val .null, .unset, .unset, .unset, .unset, .unset, .unset, .unset] [(.int (1 : Int32))])
        refine Go.of (fun _ => XS.goto H156.here hx rfl (pc0 := 55) (pc' := 59) rfl (hb hby at_55) (by decide) (by decide)) ?_
        show Go p e below _ T154 (mkF m 59 #[.val (.int p0), .val (.int p1), .val (.int p2), .val (.int p3), .val (.int p4), .val (.int p5), .val (.ref (own_pt p1 w0 w1 w2)), .val (.ref (own_pr p5 v0 v1 v2 v3)), .val f0, .val .null, .unset, .unset, .unset, .unset, .unset, .unset, .unset] [(.int (1 : Int32))])
        refine Go.of (fun _ => XS.istore H156.here hx rfl (hb hby at_59) rfl (l' := #[.val (.int p0), .val (.int p1), .val (.int p2), .val (.int p3), .val (.int p4), .val (.int p5), .val (.ref (own_pt p1 w0 w1 w2)), .val (.ref (own_pr p5 v0 v1 v2 v3)), .val f0, .val .null, .val (.int (1 : Int32)), .unset, .unset, .unset, .unset, .unset, .unset]) rfl) ?_
        show Go p e below _ T154 (mkF m 61 #[.val (.int p0), .val (.int p1), .val (.int p2), .val (.int p3), .val (.int p4), .val (.int p5), .val (.ref (own_pt p1 w0 w1 w2)), .val (.ref (own_pr p5 v0 v1 v2 v3)), .val f0, .val .null, .val (.int (1 : Int32)), .unset, .unset, .unset, .unset, .unset, .unset] [])
        exact J61_17 T154 h155 f0 .null (1 : Int32) ((H156.more (k' := 2) (n' := 2) (by decide) (by decide)).less (fun _ hq => nomatch hq)) Bf (Or.inl rfl) (Or.inr rfl)
    · skip
      refine Go.of (fun _ => XS.ifNo H156.here hx rfl (hb hby at_34) rfl ((if0 _ _).trans (feq hc157).1)) ?_
      show Go p e below _ T154 (mkF m 37 #[.val (.int p0), .val (.int p1), .val (.int p2), .val (.int p3), .val (.int p4), .val (.int p5), .val (.ref (own_pt p1 w0 w1 w2)), .val (.ref (own_pr p5 v0 v1 v2 v3)), .val f0, .unset, .unset, .unset, .unset, .unset, .unset, .unset, .unset] [])
      refine Go.of (fun _ => XS.iloadN H156.here hx rfl (hb hby at_37) rfl) ?_
      show Go p e below _ T154 (mkF m 38 #[.val (.int p0), .val (.int p1), .val (.int p2), .val (.int p3), .val (.int p4), .val (.int p5), .val (.ref (own_pt p1 w0 w1 w2)), .val (.ref (own_pr p5 v0 v1 v2 v3)), .val f0, .unset, .unset, .unset, .unset, .unset, .unset, .unset, .unset] [(.int p3)])
      refine own_staticW H156 hx (y := (⟨"java/lang/Integer", "valueOf", "(I)Ljava/lang/Integer;"⟩ : MethodName)) hown (ow hw 108 rfl) (ow hw 58 rfl) (ow hw 59 rfl) (ow hw 60 rfl) (by decide) (W := 0) (rm_vo l Z a0 hw hE p3 ca cl h155 H156.old SH SCa BX) (fun _ hq => nomatch hq) (by decide) (by decide) rfl (by rw [hml]; rfl) (argsL := [(.int p3)]) (rest := []) rfl (lenOf pd_3 rfl) rfl (by show 2 * 0 + _ ≤ _; exact Nat.le_of_eq rfl) (hb hby at_38) (by decide) (by decide) fun T159 h161 v163 H160 hs164 q162 => ?_
      obtain ⟨bx165, rfl, K166, B167⟩ := q162
      have B168 := Bf.keep K166 all0
      show Go p e below _ T159 (mkF m 41 #[.val (.int p0), .val (.int p1), .val (.int p2), .val (.int p3), .val (.int p4), .val (.int p5), .val (.ref (own_pt p1 w0 w1 w2)), .val (.ref (own_pr p5 v0 v1 v2 v3)), .val f0, .unset, .unset, .unset, .unset, .unset, .unset, .unset, .unset] [(.ref bx165)])
      refine Go.of (fun _ => XS.goto H160.here hx rfl (pc0 := 41) (pc' := 45) rfl (hb hby at_41) (by decide) (by decide)) ?_
      show Go p e below _ T159 (mkF m 45 #[.val (.int p0), .val (.int p1), .val (.int p2), .val (.int p3), .val (.int p4), .val (.int p5), .val (.ref (own_pt p1 w0 w1 w2)), .val (.ref (own_pr p5 v0 v1 v2 v3)), .val f0, .unset, .unset, .unset, .unset, .unset, .unset, .unset, .unset] [(.ref bx165)])
      refine Go.of (fun _ => XS.astore H160.here hx rfl (hb hby at_45) rfl rfl (l' := #[.val (.int p0), .val (.int p1), .val (.int p2), .val (.int p3), .val (.int p4), .val (.int p5), .val (.ref (own_pt p1 w0 w1 w2)), .val (.ref (own_pr p5 v0 v1 v2 v3)), .val f0, .val (.ref bx165), .unset, .unset, .unset, .unset, .unset, .unset, .unset]) rfl) ?_
      show Go p e below _ T159 (mkF m 47 #[.val (.int p0), .val (.int p1), .val (.int p2), .val (.int p3), .val (.int p4), .val (.int p5), .val (.ref (own_pt p1 w0 w1 w2)), .val (.ref (own_pr p5 v0 v1 v2 v3)), .val f0, .val (.ref bx165), .unset, .unset, .unset, .unset, .unset, .unset, .unset] [])
      refine Go.of (fun _ => XS.iload H160.here hx rfl (hb hby at_47) rfl) ?_
      show Go p e below _ T159 (mkF m 49 #[.val (.int p0), .val (.int p1), .val (.int p2), .val (.int p3), .val (.int p4), .val (.int p5), .val (.ref (own_pt p1 w0 w1 w2)), .val (.ref (own_pr p5 v0 v1 v2 v3)), .val f0, .val (.ref bx165), .unset, .unset, .unset, .unset, .unset, .unset, .unset] [(.int p4)])
      refine Go.of (fun _ => XS.iconst H160.here hx rfl (hb hby at_49)) ?_
      show Go p e below _ T159 (mkF m 50 #[.val (.int p0), .val (.int p1), .val (.int p2), .val (.int p3), .val (.int p4), .val (.int p5), .val (.ref (own_pt p1 w0 w1 w2)), .val (.ref (own_pr p5 v0 v1 v2 v3)), .val f0, .val (.ref bx165), .unset, .unset, .unset, .unset, .unset, .unset, .unset] [(.int (4 : Int32)), (.int p4)])
      refine Go.of (fun _ => XS.iand H160.here hx rfl (hb hby at_50) rfl) ?_
      show Go p e below _ T159 (mkF m 51 #[.val (.int p0), .val (.int p1), .val (.int p2), .val (.int p3), .val (.int p4), .val (.int p5), .val (.ref (own_pt p1 w0 w1 w2)), .val (.ref (own_pr p5 v0 v1 v2 v3)), .val f0, .val (.ref bx165), .unset, .unset, .unset, .unset, .unset, .unset, .unset] [(.int (p4 &&& (4 : Int32)))])
      by_cases hc169 : (p4 &&& (4 : Int32)) = (0 : Int32)
      · skip
        refine Go.of (fun _ => XS.ifYes H160.here hx rfl (pc0 := 51) (pc' := 58) rfl (hb hby at_51) rfl ((if0 _ _).trans (teq hc169).1) (by decide) (by decide)) ?_
        show Go p e below _ T159 (mkF m 58 #[.val (.int p0), .val (.int p1), .val (.int p2), .val (.int p3), .val (.int p4), .val (.int p5), .val (.ref (own_pt p1 w0 w1 w2)), .val (.ref (own_pr p5 v0 v1 v2 v3)), .val f0, .val (.ref bx165), .unset, .unset, .unset, .unset, .unset, .unset, .unset] [])
        refine Go.of (fun _ => XS.iconst H160.here hx rfl (hb hby at_58)) ?_
        show Go p e below _ T159 (mkF m 59 #[.val (.int p0), .val (.int p1), .val (.int p2), .val (.int p3), .val (.int p4), .val (.int p5), .val (.ref (own_pt p1 w0 w1 w2)), .val (.ref (own_pr p5 v0 v1 v2 v3)), .val f0, .val (.ref bx165), .unset, .unset, .unset, .unset, .unset, .unset, .unset] [(.int (0 : Int32))])
        refine Go.of (fun _ => XS.istore H160.here hx rfl (hb hby at_59) rfl (l' := #[.val (.int p0), .val (.int p1), .val (.int p2), .val (.int p3), .val (.int p4), .val (.int p5), .val (.ref (own_pt p1 w0 w1 w2)), .val (.ref (own_pr p5 v0 v1 v2 v3)), .val f0, .val (.ref bx165), .val (.int (0 : Int32)), .unset, .unset, .unset, .unset, .unset, .unset]) rfl) ?_
        show Go p e below _ T159 (mkF m 61 #[.val (.int p0), .val (.int p1), .val (.int p2), .val (.int p3), .val (.int p4), .val (.int p5), .val (.ref (own_pt p1 w0 w1 w2)), .val (.ref (own_pr p5 v0 v1 v2 v3)), .val f0, .val (.ref bx165), .val (.int (0 : Int32)), .unset, .unset, .unset, .unset, .unset, .unset] [])
        exact J61_17 T159 h161 f0 (.ref bx165) (0 : Int32) ((H160.more (k' := 2) (n' := 2) (by decide) (by decide)).less (fun _ hq => nomatch hq)) B168 (Or.inr ⟨_, _, rfl, B167⟩) (Or.inl rfl)
      · skip
        refine Go.of (fun _ => XS.ifNo H160.here hx rfl (hb hby at_51) rfl ((if0 _ _).trans (feq hc169).1)) ?_
        show Go p e below _ T159 (mkF m 54 #[.val (.int p0), .val (.int p1), .val (.int p2), .val (.int p3), .val (.int p4), .val (.int p5), .val (.ref (own_pt p1 w0 w1 w2)), .val (.ref (own_pr p5 v0 v1 v2 v3)), .val f0, .val (.ref bx165), .unset, .unset, .unset, .unset, .unset, .unset, .unset] [])
        refine Go.of (fun _ => XS.iconst H160.here hx rfl (hb hby at_54)) ?_
        show Go p e below _ T159 (mkF m 55 #[.val (.int p0), .val (.int p1), .val (.int p2), .val (.int p3), .val (.int p4), .val (.int p5), .val (.ref (own_pt p1 w0 w1 w2)), .val (.ref (own_pr p5 v0 v1 v2 v3)), .val f0, .val (.ref bx165), .unset, .unset, .unset, .unset, .unset, .unset, .unset] [(.int (1 : Int32))])
        refine Go.of (fun _ => XS.goto H160.here hx rfl (pc0 := 55) (pc' := 59) rfl (hb hby at_55) (by decide) (by decide)) ?_
        show Go p e below _ T159 (mkF m 59 #[.val (.int p0), .val (.int p1), .val (.int p2), .val (.int p3), .val (.int p4), .val (.int p5), .val (.ref (own_pt p1 w0 w1 w2)), .val (.ref (own_pr p5 v0 v1 v2 v3)), .val f0, .val (.ref bx165), .unset, .unset, .unset, .unset, .unset, .unset, .unset] [(.int (1 : Int32))])
        refine Go.of (fun _ => XS.istore H160.here hx rfl (hb hby at_59) rfl (l' := #[.val (.int p0), .val (.int p1), .val (.int p2), .val (.int p3), .val (.int p4), .val (.int p5), .val (.ref (own_pt p1 w0 w1 w2)), .val (.ref (own_pr p5 v0 v1 v2 v3)), .val f0, .val (.ref bx165), .val (.int (1 : Int32)), .unset, .unset, .unset, .unset, .unset, .unset]) rfl) ?_
        show Go p e below _ T159 (mkF m 61 #[.val (.int p0), .val (.int p1), .val (.int p2), .val (.int p3), .val (.int p4), .val (.int p5), .val (.ref (own_pt p1 w0 w1 w2)), .val (.ref (own_pr p5 v0 v1 v2 v3)), .val f0, .val (.ref bx165), .val (.int (1 : Int32)), .unset, .unset, .unset, .unset, .unset, .unset] [])
        exact J61_17 T159 h161 f0 (.ref bx165) (1 : Int32) ((H160.more (k' := 2) (n' := 2) (by decide) (by decide)).less (fun _ hq => nomatch hq)) B168 (Or.inr ⟨_, _, rfl, B167⟩) (Or.inr rfl)
  show Go p e below _ T9 (mkF m 13 #[.val (.int p0), .val (.int p1), .val (.int p2), .val (.int p3), .val (.int p4), .val (.int p5), .val (.ref (own_pt p1 w0 w1 w2)), .val (.ref (own_pr p5 v0 v1 v2 v3)), .unset, .unset, .unset, .unset, .unset, .unset, .unset, .unset, .unset] [])
  refine Go.of (fun _ => XS.iload H10.here hx rfl (hb hby at_13) rfl) ?_
  show Go p e below _ T9 (mkF m 15 #[.val (.int p0), .val (.int p1), .val (.int p2), .val (.int p3), .val (.int p4), .val (.int p5), .val (.ref (own_pt p1 w0 w1 w2)), .val (.ref (own_pr p5 v0 v1 v2 v3)), .unset, .unset, .unset, .unset, .unset, .unset, .unset, .unset, .unset] [(.int p4)])
  refine Go.of (fun _ => XS.iconst H10.here hx rfl (hb hby at_15)) ?_
  show Go p e below _ T9 (mkF m 16 #[.val (.int p0), .val (.int p1), .val (.int p2), .val (.int p3), .val (.int p4), .val (.int p5), .val (.ref (own_pt p1 w0 w1 w2)), .val (.ref (own_pr p5 v0 v1 v2 v3)), .unset, .unset, .unset, .unset, .unset, .unset, .unset, .unset, .unset] [(.int (1 : Int32)), (.int p4)])
  refine Go.of (fun _ => XS.iand H10.here hx rfl (hb hby at_16) rfl) ?_
  show Go p e below _ T9 (mkF m 17 #[.val (.int p0), .val (.int p1), .val (.int p2), .val (.int p3), .val (.int p4), .val (.int p5), .val (.ref (own_pt p1 w0 w1 w2)), .val (.ref (own_pr p5 v0 v1 v2 v3)), .unset, .unset, .unset, .unset, .unset, .unset, .unset, .unset, .unset] [(.int (p4 &&& (1 : Int32)))])
  by_cases hc170 : (p4 &&& (1 : Int32)) = (0 : Int32)
  · skip
    refine Go.of (fun _ => XS.ifYes H10.here hx rfl (pc0 := 17) (pc' := 27) rfl (hb hby at_17) rfl ((if0 _ _).trans (teq hc170).1) (by decide) (by decide)) ?_
    show Go p e below _ T9 (mkF m 27 #[.val (.int p0), .val (.int p1), .val (.int p2), .val (.int p3), .val (.int p4), .val (.int p5), .val (.ref (own_pt p1 w0 w1 w2)), .val (.ref (own_pr p5 v0 v1 v2 v3)), .unset, .unset, .unset, .unset, .unset, .unset, .unset, .unset, .unset] [])
    refine Go.of (fun _ => XS.aconstNull H10.here hx rfl (hb hby at_27)) ?_
    show Go p e below _ T9 (mkF m 28 #[.val (.int p0), .val (.int p1), .val (.int p2), .val (.int p3), .val (.int p4), .val (.int p5), .val (.ref (own_pt p1 w0 w1 w2)), .val (.ref (own_pr p5 v0 v1 v2 v3)), .unset, .unset, .unset, .unset, .unset, .unset, .unset, .unset, .unset] [.null])
    refine Go.of (fun _ => XS.astore H10.here hx rfl (hb hby at_28) rfl rfl (l' := #[.val (.int p0), .val (.int p1), .val (.int p2), .val (.int p3), .val (.int p4), .val (.int p5), .val (.ref (own_pt p1 w0 w1 w2)), .val (.ref (own_pr p5 v0 v1 v2 v3)), .val .null, .unset, .unset, .unset, .unset, .unset, .unset, .unset, .unset]) rfl) ?_
    show Go p e below _ T9 (mkF m 30 #[.val (.int p0), .val (.int p1), .val (.int p2), .val (.int p3), .val (.int p4), .val (.int p5), .val (.ref (own_pt p1 w0 w1 w2)), .val (.ref (own_pr p5 v0 v1 v2 v3)), .val .null, .unset, .unset, .unset, .unset, .unset, .unset, .unset, .unset] [])
    exact J30_153 T9 h0 .null ((H10.more (k' := 1) (n' := 1) (by decide) (by decide)).less (fun _ hq => nomatch hq)) (Or.inl rfl)
  · skip
    refine Go.of (fun _ => XS.ifNo H10.here hx rfl (hb hby at_17) rfl ((if0 _ _).trans (feq hc170).1)) ?_
    show Go p e below _ T9 (mkF m 20 #[.val (.int p0), .val (.int p1), .val (.int p2), .val (.int p3), .val (.int p4), .val (.int p5), .val (.ref (own_pt p1 w0 w1 w2)), .val (.ref (own_pr p5 v0 v1 v2 v3)), .unset, .unset, .unset, .unset, .unset, .unset, .unset, .unset, .unset] [])
    refine Go.of (fun _ => XS.iloadN H10.here hx rfl (hb hby at_20) rfl) ?_
    show Go p e below _ T9 (mkF m 21 #[.val (.int p0), .val (.int p1), .val (.int p2), .val (.int p3), .val (.int p4), .val (.int p5), .val (.ref (own_pt p1 w0 w1 w2)), .val (.ref (own_pr p5 v0 v1 v2 v3)), .unset, .unset, .unset, .unset, .unset, .unset, .unset, .unset, .unset] [(.int p2)])
    refine own_staticW H10 hx (y := (⟨"java/lang/Integer", "valueOf", "(I)Ljava/lang/Integer;"⟩ : MethodName)) hown (ow hw 108 rfl) (ow hw 58 rfl) (ow hw 59 rfl) (ow hw 60 rfl) (by decide) (W := 0) (rm_vo l Z a0 hw hE p2 ca cl h0 H10.old SH SCa BX) (fun _ hq => nomatch hq) (by decide) (by decide) rfl (by rw [hml]; rfl) (argsL := [(.int p2)]) (rest := []) rfl (lenOf pd_3 rfl) rfl (by show 2 * 0 + _ ≤ _; exact Nat.le_of_eq rfl) (hb hby at_21) (by decide) (by decide) fun T171 h173 v175 H172 hs176 q174 => ?_
    obtain ⟨bx177, rfl, K178, B179⟩ := q174
    show Go p e below _ T171 (mkF m 24 #[.val (.int p0), .val (.int p1), .val (.int p2), .val (.int p3), .val (.int p4), .val (.int p5), .val (.ref (own_pt p1 w0 w1 w2)), .val (.ref (own_pr p5 v0 v1 v2 v3)), .unset, .unset, .unset, .unset, .unset, .unset, .unset, .unset, .unset] [(.ref bx177)])
    refine Go.of (fun _ => XS.goto H172.here hx rfl (pc0 := 24) (pc' := 28) rfl (hb hby at_24) (by decide) (by decide)) ?_
    show Go p e below _ T171 (mkF m 28 #[.val (.int p0), .val (.int p1), .val (.int p2), .val (.int p3), .val (.int p4), .val (.int p5), .val (.ref (own_pt p1 w0 w1 w2)), .val (.ref (own_pr p5 v0 v1 v2 v3)), .unset, .unset, .unset, .unset, .unset, .unset, .unset, .unset, .unset] [(.ref bx177)])
    refine Go.of (fun _ => XS.astore H172.here hx rfl (hb hby at_28) rfl rfl (l' := #[.val (.int p0), .val (.int p1), .val (.int p2), .val (.int p3), .val (.int p4), .val (.int p5), .val (.ref (own_pt p1 w0 w1 w2)), .val (.ref (own_pr p5 v0 v1 v2 v3)), .val (.ref bx177), .unset, .unset, .unset, .unset, .unset, .unset, .unset, .unset]) rfl) ?_
    show Go p e below _ T171 (mkF m 30 #[.val (.int p0), .val (.int p1), .val (.int p2), .val (.int p3), .val (.int p4), .val (.int p5), .val (.ref (own_pt p1 w0 w1 w2)), .val (.ref (own_pr p5 v0 v1 v2 v3)), .val (.ref bx177), .unset, .unset, .unset, .unset, .unset, .unset, .unset, .unset] [])
    exact J30_153 T171 h173 (.ref bx177) ((H172.more (k' := 1) (n' := 1) (by decide) (by decide)).less (fun _ hq => nomatch hq)) (Or.inr ⟨_, _, rfl, B179⟩)
set_option maxRecDepth 65536 in
set_option maxHeartbeats 40000000 in
theorem comes_1 {Post : Tables → Env → Array Value → State → Outcome → State → Prop} (hpost : ∀ tb e args s v u, (limb_1_1.after args s (.returned v) u = true ∧ limb_1_2.after args s (.returned v) u = true ∧ True) → ReturnedEndW s (.returned v) u (Jvm.fieldLocs frame_1_writes args s ++ Jvm.arrayLocs frame_1_arrays args s ++ Jvm.staticLocs frame_1_statics s) 24 2176 → Post tb e args s (.returned v) u) :
    ArmFor flags0 classFile x code maxLocals ret World_1 tables_1 room_1 Calls_1 rest_1 Pre_1 Post := by
  intro l hfl _ _ p e ha hc hk s m args below hf hA hF happ hP
  obtain ⟨hcalls, hrest, hpre⟩ := hP
  obtain ⟨-, -, -, hnamed, -, -, -, hat⟩ := (Spec.applies_iff hf).mp happ
  obtain ⟨hg, hn⟩ := and_e (Cond.before_iff.mp (show (Jvm.Cond.and given_1 narrow_1).before args s = true from hpre))
  obtain ⟨g0, gg0⟩ := and_e hg
  obtain ⟨g1, gg1⟩ := and_e gg0
  obtain ⟨g2, gg2⟩ := and_e gg1
  obtain ⟨g3, gg3⟩ := and_e gg2
  obtain ⟨g4, gg4⟩ := and_e gg3
  obtain ⟨g5, gg5⟩ := and_e gg4
  obtain ⟨u0, u1, u2, u3, u4, u5, rfl⟩ : ∃ u0 u1 u2 u3 u4 u5 : Value, args = #[u0, u1, u2, u3, u4, u5] := by
    have hs : args.size = 6 := by simpa [Cond.value, given_1] using g0
    obtain ⟨L⟩ := args
    match L, hs with
    | [u0, u1, u2, u3, u4, u5], _ => exact ⟨u0, u1, u2, u3, u4, u5, rfl⟩
  have hw := fun d (hd : d ∈ tables_1) => atoms_spec (ws := Jvm.Cond.code x code maxLocals ret :: tables_1) hat d (List.mem_cons_of_mem _ hd)
  obtain ⟨i0, ei0⟩ := is_v g1
  obtain rfl : u0 = (.int i0) := Option.some.inj ei0
  obtain ⟨i1, ei1⟩ := is_v g2
  obtain rfl : u1 = (.int i1) := Option.some.inj ei1
  obtain ⟨i2, ei2⟩ := is_v g3
  obtain rfl : u2 = (.int i2) := Option.some.inj ei2
  obtain ⟨i3, ei3⟩ := is_v g4
  obtain rfl : u3 = (.int i3) := Option.some.inj ei3
  obtain ⟨i4, ei4⟩ := is_v g5
  obtain rfl : u4 = (.int i4) := Option.some.inj ei4
  obtain ⟨i5, ei5⟩ := is_v gg5
  obtain rfl : u5 = (.int i5) := Option.some.inj ei5
  obtain ⟨x0, y0⟩ := and_e hn
  obtain ⟨x1, y1⟩ := and_e y0
  obtain ⟨x2, y2⟩ := and_e y1
  obtain ⟨x3, y3⟩ := and_e y2
  obtain ⟨x4, y4⟩ := and_e y3
  obtain ⟨x5, y5⟩ := and_e y4
  obtain ⟨hsets, hown0⟩ := atoms_of _ (rest_1_c_eq ▸ (show rest_1_c.before _ s = true from hrest))
  obtain ⟨w0, ew0⟩ := exa_v x0
  have Sw0 := Sta.start ew0 (Or.inr ⟨(ow hw 6 rfl), (ow hw 7 rfl)⟩)
  obtain ⟨w1, ew1⟩ := exa_v x2
  have Sw1 := Sta.start ew1 (Or.inr ⟨(ow hw 6 rfl), (ow hw 101 rfl)⟩)
  obtain ⟨w2, ew2⟩ := exa_v x4
  have Sw2 := Sta.start ew2 (Or.inr ⟨(ow hw 6 rfl), (ow hw 105 rfl)⟩)
  obtain ⟨v0, ev0⟩ := exa_v y5
  have Sv0 := Sta.start ev0 (Or.inr ⟨(ow hw 12 rfl), (ow hw 123 rfl)⟩)
  obtain ⟨v1, ev1⟩ := exa_v x5
  have Sv1 := Sta.start ev1 (Or.inr ⟨(ow hw 12 rfl), (ow hw 107 rfl)⟩)
  obtain ⟨v2, ev2⟩ := exa_v x3
  have Sv2 := Sta.start ev2 (Or.inr ⟨(ow hw 12 rfl), (ow hw 103 rfl)⟩)
  obtain ⟨v3, ev3⟩ := exa_v x1
  have Sv3 := Sta.start ev3 (Or.inr ⟨(ow hw 12 rfl), (ow hw 13 rfl)⟩)
  have e127 := eqv_i (Term.int_eval 127) (Cond.before_iff.mp (hsets _ (List.mem_of_getElem? (i := 3) rfl)))
  have SH := Sta.start e127 (Or.inl (hsets _ (List.mem_of_getElem? (i := 1) rfl)))
  obtain ⟨ca, eca⟩ := arr_v (Cond.before_iff.mp (hsets _ (List.mem_of_getElem? (i := 4) rfl)))
  have SCa := Sta.start eca (Or.inr ⟨(ow hw 62 rfl), (hsets _ (List.mem_of_getElem? (i := 2) rfl))⟩)
  obtain ⟨cl, Acl⟩ := Arr.start eca (Cond.before_iff.mp (hsets _ (List.mem_of_getElem? (i := 4) rfl)))
  have BX := own_bxs eca Acl (Cond.before_iff.mp (hsets _ (List.mem_of_getElem? (i := 6) rfl))) (Cond.before_iff.mp (hsets _ (List.mem_of_getElem? (i := 7) rfl)))
  obtain ⟨n, o, h1, h2, h3, _, L, rfl, ⟨N, -, rfl⟩, -, hq⟩ := rm_law l s _ hw EW.nil i0 i1 i2 i3 i4 i5 w0 w1 w2 v0 v1 v2 v3 ca cl s.heap ⟨Nat.le_refl _, fun _ _ q => q⟩ Sw0 Sw1 Sw2 Sv0 Sv1 Sv2 Sv3 SH SCa BX p e ha hc hk s m _ below hf ((Spec.applies_iff_loose hf).mp happ).1 ⟨rfl, State.Warmed39.refl s, rfl, (fun _ hq => nomatch hq), (fun _ hq => nomatch hq)⟩ trivial
  have hq : ReturnedEndW s _ _ L room_1.cells room_1.slots := hq
  exact ⟨n, _, h1, h2, h3, hpost _ _ _ _ _ _ ⟨Cond.after_iff.mpr rfl, Cond.after_iff.mpr (eq_i res_at (Term.int_eval (1)) rfl), trivial⟩ ⟨hq.1, hq.2.1, hq.2.2.1, (hq.2.2.2.sift fun y hy => Or.inr (N y hy)).mono (by decide) (by decide)⟩⟩
theorem main_1_1 : Claimed_1_1 := comes_1 fun _ _ _ _ _ _ h hF => ⟨h.1, hF⟩
theorem main_1_2 : Claimed_1_2 := comes_1 fun _ _ _ _ _ _ h hF => ⟨h.2.1, hF⟩
end Jvm.Pilot.@@N@@
namespace Jvm.Pilot.@@N@@
open Jvm Jvm.ClassFile Sem Op Lib Jvm.Free Jvm.Stand Jvm.Pilot.@@N@@.Jvm.D
/-! MADE BY PROGRAM (witnessworld.py) out of the Statement's table words and the real class files: 23 classes; the members and pool entries that the words name. The judged class is class 1, her method 4. -/
namespace start1
open Jvm.ClassFile
def u (s : String) : CpInfo := .utf8 (stringToUtf16 s)
/-- a pool by its gaps: so many unusable entries, then the entry; so many at the end -/
def gap : Nat → List CpInfo → List CpInfo
  | 0, r => r
  | n + 1, r => .unusable :: gap n r
def poolList (es : List (Nat × CpInfo)) (last : Nat) : List CpInfo := es.foldr (fun e r => gap e.1 (e.2 :: r)) (gap last [])
def pool (es : List (Nat × CpInfo)) (last : Nat) : Array CpInfo := ⟨poolList es last⟩
def fileOf (pool : Array CpInfo) (this : Nat) (attrs : Array Attribute := #[]) (ms : Array MethodInfo := #[]) (fl : Nat := 33) (sup : Nat := 0) (ifs : Array Nat := #[]) (fds : Array FieldInfo := #[]) : ClassFile where
  minorVersion := 0
  majorVersion := 65
  constantPool := pool
  accessFlags := fl
  thisClass := this
  superClass := sup
  interfaces := ifs
  fields := fds
  methods := ms
  attributes := attrs
def plain (name : String) (sup : Option ClassId) : Class where
  name := name
  kind := .ordinary
  loader := none
  accessFlags := 33
  super := sup
  interfaces := #[]
  cf := none
  fields := #[]
  methods := #[]
  instanceTypes := #[]
  staticTypes := #[]
  resolved := #[]
  callSites := []
  init := .initialized
  statics := none
  mirror := none

def pool0 : Array CpInfo := pool [(5, u "<init>"), (0, u "()V"), (1, .class_ 10), (1, u "java/lang/Object")] 113

def k0c0 : Code := { maxStack := 0, maxLocals := 1, code := object_method_1_code, exceptionTable := #[], attributes := #[] }
def k0m0 : Method := { name := "<init>", desc := "()V", sig := { parameters := [], returnType := none }, accessFlags := 1, code := some k0c0 }
/-- java/lang/Object -/
def k0 : Class := { plain "java/lang/Object" none with
  accessFlags := 33
  interfaces := #[]
  cf := some (fileOf pool0 8 #[] #[{ accessFlags := 1, nameIndex := 5, descriptorIndex := 6, attributes := #[] }] 33 0 #[] #[])
  fields := #[]
  methods := #[k0m0]
  instanceTypes := #[]
  staticTypes := #[]
  resolved := Array.replicate 124 none
  statics := none }

def pool1 : Array CpInfo := pool [(2, .class_ 4), (1, u "java/lang/Object"), (0, u "<init>"), (0, u "()V"), (0, .integer 2147483647), (0, .fieldref 9 10), (0, .class_ 11), (0, .nameAndType 12 13), (0, u "com/example/sentencia/sentencia/StatementType"), (0, u "STATEMENT"), (0, u "Lcom/example/sentencia/sentencia/StatementType;"), (0, .fieldref 9 15), (0, .nameAndType 16 13), (0, u "PREPARED"), (0, .fieldref 9 18), (0, .nameAndType 19 13), (0, u "CALLABLE"), (0, .fieldref 21 22), (0, .class_ 23), (0, .nameAndType 24 25), (0, u "com/example/sentencia/sentencia/ResultSetType"), (0, u "FORWARD_ONLY"), (0, u "Lcom/example/sentencia/sentencia/ResultSetType;"), (0, .fieldref 21 27), (0, .nameAndType 28 25), (0, u "SCROLL_INSENSITIVE"), (0, .fieldref 21 30), (0, .nameAndType 31 25), (0, u "SCROLL_SENSITIVE"), (0, .fieldref 21 33), (0, .nameAndType 34 25), (0, u "DEFAULT"), (0, .methodref 36 37), (0, .class_ 38), (0, .nameAndType 39 40), (0, u "java/lang/Integer"), (0, u "intValue"), (0, u "()I"), (0, .methodref 42 43), (0, .class_ 44), (0, .nameAndType 45 46), (0, u "com/example/sentencia/sentencia/StatementAttributesWithFetchSizePinLaw"), (0, u "pickType"), (0, u "(I)Lcom/example/sentencia/sentencia/StatementType;"), (0, .methodref 42 48), (0, .nameAndType 49 50), (0, u "pickRs"), (0, u "(I)Lcom/example/sentencia/sentencia/ResultSetType;"), (0, .methodref 36 52), (0, .nameAndType 53 54), (0, u "valueOf"), (0, u "(I)Ljava/lang/Integer;"), (0, .class_ 56), (0, u "com/example/sentencia/sentencia/StatementAttributes"), (0, .methodref 55 58), (0, .nameAndType 5 59), (0, u "(Lcom/example/sentencia/sentencia/StatementType;Lcom/example/sentencia/sentencia/ResultSetType;Ljava/lang/Integer;Ljava/lang/Integer;Z)V"), (0, .methodref 55 61), (0, .nameAndType 62 63), (0, u "withFetchSize"), (0, u "(I)Lcom/example/sentencia/sentencia/StatementAttributes;"), (0, .methodref 55 65), (0, .nameAndType 66 67), (0, u "fetchSize"), (0, u "()Ljava/lang/Integer;"), (0, .methodref 55 69), (0, .nameAndType 70 71), (0, u "type"), (0, u "()Lcom/example/sentencia/sentencia/StatementType;"), (0, .methodref 55 73), (0, .nameAndType 74 75), (0, u "resultSetType"), (0, u "()Lcom/example/sentencia/sentencia/ResultSetType;"), (0, .methodref 55 77), (0, .nameAndType 78 67), (0, u "timeout"), (0, .methodref 42 80), (0, .nameAndType 81 82), (0, u "sameInt"), (0, u "(Ljava/lang/Integer;Ljava/lang/Integer;)Z"), (0, .methodref 55 84), (0, .nameAndType 85 86), (0, u "flushCache"), (0, u "()Z"), (3, u "law"), (0, u "(IIIIII)Z")] 2

def k1m0 : Method := { name := "<init>", desc := "()V", sig := { parameters := [], returnType := none }, accessFlags := 1, code := none }
def k1c1 : Code := { maxStack := 2, maxLocals := 2, code := method_2_code, exceptionTable := #[], attributes := #[] }
def k1m1 : Method := { name := "pickType", desc := "(I)Lcom/example/sentencia/sentencia/StatementType;", sig := { parameters := [.int], returnType := some (.object "com/example/sentencia/sentencia/StatementType") }, accessFlags := 10, code := some k1c1 }
def k1c2 : Code := { maxStack := 2, maxLocals := 2, code := method_3_code, exceptionTable := #[], attributes := #[] }
def k1m2 : Method := { name := "pickRs", desc := "(I)Lcom/example/sentencia/sentencia/ResultSetType;", sig := { parameters := [.int], returnType := some (.object "com/example/sentencia/sentencia/ResultSetType") }, accessFlags := 10, code := some k1c2 }
def k1c3 : Code := { maxStack := 2, maxLocals := 2, code := method_4_code, exceptionTable := #[], attributes := #[] }
def k1m3 : Method := { name := "sameInt", desc := "(Ljava/lang/Integer;Ljava/lang/Integer;)Z", sig := { parameters := [(.object "java/lang/Integer"), (.object "java/lang/Integer")], returnType := some .boolean }, accessFlags := 10, code := some k1c3 }
def k1c4 : Code := { maxStack := 7, maxLocals := 17, code := code, exceptionTable := #[], attributes := #[] }
def k1m4 : Method := { name := "law", desc := "(IIIIII)Z", sig := { parameters := [.int, .int, .int, .int, .int, .int], returnType := some .boolean }, accessFlags := 9, code := some k1c4 }
/-- com/example/sentencia/sentencia/StatementAttributesWithFetchSizePinLaw -/
def k1 : Class := { plain "com/example/sentencia/sentencia/StatementAttributesWithFetchSizePinLaw" (some 0) with
  accessFlags := 49
  interfaces := #[]
  cf := some (fileOf pool1 42 #[] #[{ accessFlags := 1, nameIndex := 5, descriptorIndex := 6, attributes := #[] }, { accessFlags := 10, nameIndex := 45, descriptorIndex := 46, attributes := #[] }, { accessFlags := 10, nameIndex := 49, descriptorIndex := 50, attributes := #[] }, { accessFlags := 10, nameIndex := 81, descriptorIndex := 82, attributes := #[] }, { accessFlags := 9, nameIndex := 90, descriptorIndex := 91, attributes := #[] }] 49 2 #[] #[])
  fields := #[]
  methods := #[k1m0, k1m1, k1m2, k1m3, k1m4]
  instanceTypes := #[]
  staticTypes := #[]
  resolved := Array.replicate 94 none
  statics := none }

def pool2 : Array CpInfo := pool [(1, .class_ 2), (0, u "java/lang/constant/Constable"), (0, .class_ 4), (0, u "java/lang/Object")] 6

/-- java/lang/constant/Constable -/
def k2 : Class := { plain "java/lang/constant/Constable" (some 0) with
  accessFlags := 1537
  interfaces := #[]
  cf := some (fileOf pool2 1 #[] #[] 1537 3 #[] #[])
  fields := #[]
  methods := #[]
  instanceTypes := #[]
  staticTypes := #[]
  resolved := Array.replicate 11 none
  statics := none }

def pool3 : Array CpInfo := pool [(1, .class_ 2), (0, u "java/lang/Comparable"), (0, .class_ 4), (0, u "java/lang/Object")] 7

/-- java/lang/Comparable -/
def k3 : Class := { plain "java/lang/Comparable" (some 0) with
  accessFlags := 1537
  interfaces := #[]
  cf := some (fileOf pool3 1 #[] #[] 1537 3 #[] #[])
  fields := #[]
  methods := #[]
  instanceTypes := #[]
  staticTypes := #[]
  resolved := Array.replicate 12 none
  statics := none }

def pool4 : Array CpInfo := pool [(1, .class_ 2), (0, u "java/io/Serializable"), (0, .class_ 4), (0, u "java/lang/Object")] 2

/-- java/io/Serializable -/
def k4 : Class := { plain "java/io/Serializable" (some 0) with
  accessFlags := 1537
  interfaces := #[]
  cf := some (fileOf pool4 1 #[] #[] 1537 3 #[] #[])
  fields := #[]
  methods := #[]
  instanceTypes := #[]
  staticTypes := #[]
  resolved := Array.replicate 7 none
  statics := none }

def pool5 : Array CpInfo := pool [(2, .class_ 4), (1, u "java/lang/Enum"), (0, u "name"), (0, u "Ljava/lang/String;"), (2, u "ordinal"), (0, u "I"), (1, .class_ 14), (1, u "java/lang/Object"), (4, u "hash"), (86, .class_ 108), (1, u "java/lang/Enum$EnumDesc"), (2, .class_ 112), (0, u "java/lang/constant/Constable"), (0, .class_ 114), (0, u "java/lang/Comparable"), (0, .class_ 116), (0, u "java/io/Serializable")] 87

/-- java/lang/Enum -/
def k5 : Class := { plain "java/lang/Enum" (some 0) with
  accessFlags := 1057
  interfaces := #[2, 3, 4]
  cf := some (fileOf pool5 2 #[.nestMembers #[106]] #[] 1057 12 #[111, 113, 115] #[{ accessFlags := 18, nameIndex := 5, descriptorIndex := 6, attributes := #[] }, { accessFlags := 18, nameIndex := 9, descriptorIndex := 10, attributes := #[] }, { accessFlags := 2, nameIndex := 19, descriptorIndex := 10, attributes := #[] }])
  fields := #[{ name := "name", type := (.object "java/lang/String"), accessFlags := 18, slot := 0, constantValue := 0 }, { name := "ordinal", type := .int, accessFlags := 18, slot := 1, constantValue := 0 }, { name := "hash", type := .int, accessFlags := 2, slot := 2, constantValue := 0 }]
  methods := #[]
  instanceTypes := #[(.object "java/lang/String"), .int, .int]
  staticTypes := #[]
  resolved := Array.replicate 204 none
  statics := none }

def pool6 : Array CpInfo := pool [(1, .class_ 2), (0, u "com/example/sentencia/sentencia/StatementType"), (2, u "STATEMENT"), (0, u "Lcom/example/sentencia/sentencia/StatementType;"), (2, u "PREPARED"), (2, u "CALLABLE"), (2, u "$VALUES"), (0, u "[Lcom/example/sentencia/sentencia/StatementType;"), (6, .class_ 25), (1, u "java/lang/Enum")] 25

/-- com/example/sentencia/sentencia/StatementType -/
def k6 : Class := { plain "com/example/sentencia/sentencia/StatementType" (some 5) with
  accessFlags := 16433
  interfaces := #[]
  cf := some (fileOf pool6 1 #[] #[] 16433 23 #[] #[{ accessFlags := 16409, nameIndex := 5, descriptorIndex := 6, attributes := #[] }, { accessFlags := 16409, nameIndex := 9, descriptorIndex := 6, attributes := #[] }, { accessFlags := 16409, nameIndex := 12, descriptorIndex := 6, attributes := #[] }, { accessFlags := 4122, nameIndex := 15, descriptorIndex := 16, attributes := #[] }])
  fields := #[{ name := "STATEMENT", type := (.object "com/example/sentencia/sentencia/StatementType"), accessFlags := 16409, slot := 0, constantValue := 0 }, { name := "PREPARED", type := (.object "com/example/sentencia/sentencia/StatementType"), accessFlags := 16409, slot := 1, constantValue := 0 }, { name := "CALLABLE", type := (.object "com/example/sentencia/sentencia/StatementType"), accessFlags := 16409, slot := 2, constantValue := 0 }, { name := "$VALUES", type := (.array (.object "com/example/sentencia/sentencia/StatementType")), accessFlags := 4122, slot := 3, constantValue := 0 }]
  methods := #[]
  instanceTypes := #[(.object "java/lang/String"), .int, .int]
  staticTypes := #[(.object "com/example/sentencia/sentencia/StatementType"), (.object "com/example/sentencia/sentencia/StatementType"), (.object "com/example/sentencia/sentencia/StatementType"), (.array (.object "com/example/sentencia/sentencia/StatementType"))]
  resolved := Array.replicate 51 none
  statics := some 0 }

def pool7 : Array CpInfo := pool [(1, .class_ 2), (0, u "com/example/sentencia/sentencia/ResultSetType"), (2, u "FORWARD_ONLY"), (0, u "Lcom/example/sentencia/sentencia/ResultSetType;"), (2, u "SCROLL_INSENSITIVE"), (2, u "SCROLL_SENSITIVE"), (2, u "DEFAULT"), (2, u "$VALUES"), (0, u "[Lcom/example/sentencia/sentencia/ResultSetType;"), (6, .class_ 28), (1, u "java/lang/Enum"), (8, u "jdbcType"), (0, u "Ljava/lang/Integer;")] 31

/-- com/example/sentencia/sentencia/ResultSetType -/
def k7 : Class := { plain "com/example/sentencia/sentencia/ResultSetType" (some 5) with
  accessFlags := 16433
  interfaces := #[]
  cf := some (fileOf pool7 1 #[] #[] 16433 26 #[] #[{ accessFlags := 16409, nameIndex := 5, descriptorIndex := 6, attributes := #[] }, { accessFlags := 16409, nameIndex := 9, descriptorIndex := 6, attributes := #[] }, { accessFlags := 16409, nameIndex := 12, descriptorIndex := 6, attributes := #[] }, { accessFlags := 16409, nameIndex := 15, descriptorIndex := 6, attributes := #[] }, { accessFlags := 18, nameIndex := 37, descriptorIndex := 38, attributes := #[] }, { accessFlags := 4122, nameIndex := 18, descriptorIndex := 19, attributes := #[] }])
  fields := #[{ name := "FORWARD_ONLY", type := (.object "com/example/sentencia/sentencia/ResultSetType"), accessFlags := 16409, slot := 0, constantValue := 0 }, { name := "SCROLL_INSENSITIVE", type := (.object "com/example/sentencia/sentencia/ResultSetType"), accessFlags := 16409, slot := 1, constantValue := 0 }, { name := "SCROLL_SENSITIVE", type := (.object "com/example/sentencia/sentencia/ResultSetType"), accessFlags := 16409, slot := 2, constantValue := 0 }, { name := "DEFAULT", type := (.object "com/example/sentencia/sentencia/ResultSetType"), accessFlags := 16409, slot := 3, constantValue := 0 }, { name := "jdbcType", type := (.object "java/lang/Integer"), accessFlags := 18, slot := 3, constantValue := 0 }, { name := "$VALUES", type := (.array (.object "com/example/sentencia/sentencia/ResultSetType")), accessFlags := 4122, slot := 4, constantValue := 0 }]
  methods := #[]
  instanceTypes := #[(.object "java/lang/String"), .int, .int, (.object "java/lang/Integer")]
  staticTypes := #[(.object "com/example/sentencia/sentencia/ResultSetType"), (.object "com/example/sentencia/sentencia/ResultSetType"), (.object "com/example/sentencia/sentencia/ResultSetType"), (.object "com/example/sentencia/sentencia/ResultSetType"), (.array (.object "com/example/sentencia/sentencia/ResultSetType"))]
  resolved := Array.replicate 70 none
  statics := some 1 }

def pool8 : Array CpInfo := pool [(1, .methodref 2 3), (0, .class_ 4), (0, .nameAndType 5 6), (0, u "java/lang/Object"), (0, u "<init>"), (0, u "()V"), (0, .class_ 8), (0, u "java/lang/Record")] 13

def k8c0 : Code := { maxStack := 1, maxLocals := 1, code := jdk_30_method_1_code, exceptionTable := #[], attributes := #[] }
def k8m0 : Method := { name := "<init>", desc := "()V", sig := { parameters := [], returnType := none }, accessFlags := 4, code := some k8c0 }
/-- java/lang/Record -/
def k8 : Class := { plain "java/lang/Record" (some 0) with
  accessFlags := 1057
  interfaces := #[]
  cf := some (fileOf pool8 7 #[] #[{ accessFlags := 4, nameIndex := 5, descriptorIndex := 6, attributes := #[] }] 1057 2 #[] #[])
  fields := #[]
  methods := #[k8m0]
  instanceTypes := #[]
  staticTypes := #[]
  resolved := Array.replicate 22 none
  statics := none }

def pool9 : Array CpInfo := pool [(1, .methodref 2 3), (0, .class_ 4), (0, .nameAndType 5 6), (0, u "java/lang/Record"), (0, u "<init>"), (0, u "()V"), (0, .string 8), (0, u "type"), (0, .methodref 10 11), (0, .class_ 12), (0, .nameAndType 13 14), (0, u "java/util/Objects"), (0, u "requireNonNull"), (0, u "(Ljava/lang/Object;Ljava/lang/String;)Ljava/lang/Object;"), (0, .string 16), (0, u "resultSetType"), (0, .fieldref 18 19), (0, .class_ 20), (0, .nameAndType 8 21), (0, u "com/example/sentencia/sentencia/StatementAttributes"), (0, u "Lcom/example/sentencia/sentencia/StatementType;"), (0, .fieldref 18 23), (0, .nameAndType 16 24), (0, u "Lcom/example/sentencia/sentencia/ResultSetType;"), (0, .fieldref 18 26), (0, .nameAndType 27 28), (0, u "fetchSize"), (0, u "Ljava/lang/Integer;"), (0, .fieldref 18 30), (0, .nameAndType 31 28), (0, u "timeout"), (0, .fieldref 18 33), (0, .nameAndType 34 35), (0, u "flushCache"), (0, u "Z"), (0, .methodref 37 38), (0, .class_ 39), (0, .nameAndType 40 41), (0, u "java/lang/Integer"), (0, u "valueOf"), (0, u "(I)Ljava/lang/Integer;"), (0, .methodref 18 43), (0, .nameAndType 5 44), (0, u "(Lcom/example/sentencia/sentencia/StatementType;Lcom/example/sentencia/sentencia/ResultSetType;Ljava/lang/Integer;Ljava/lang/Integer;Z)V"), (21, u "DEFAULT"), (2, u "Lcom/example/sentencia/sentencia/StatementAttributes;"), (3, u "withFetchSize"), (0, u "(I)Lcom/example/sentencia/sentencia/StatementAttributes;"), (3, u "()Lcom/example/sentencia/sentencia/StatementType;"), (0, u "()Lcom/example/sentencia/sentencia/ResultSetType;"), (0, u "()Ljava/lang/Integer;"), (0, u "()Z")] 25

def k9c0 : Code := { maxStack := 2, maxLocals := 6, code := prog_74_method_1_code, exceptionTable := #[], attributes := #[] }
def k9m0 : Method := { name := "<init>", desc := "(Lcom/example/sentencia/sentencia/StatementType;Lcom/example/sentencia/sentencia/ResultSetType;Ljava/lang/Integer;Ljava/lang/Integer;Z)V", sig := { parameters := [(.object "com/example/sentencia/sentencia/StatementType"), (.object "com/example/sentencia/sentencia/ResultSetType"), (.object "java/lang/Integer"), (.object "java/lang/Integer"), .boolean], returnType := none }, accessFlags := 0, code := some k9c0 }
def k9c1 : Code := { maxStack := 7, maxLocals := 2, code := prog_74_method_2_code, exceptionTable := #[], attributes := #[] }
def k9m1 : Method := { name := "withFetchSize", desc := "(I)Lcom/example/sentencia/sentencia/StatementAttributes;", sig := { parameters := [.int], returnType := some (.object "com/example/sentencia/sentencia/StatementAttributes") }, accessFlags := 0, code := some k9c1 }
def k9c2 : Code := { maxStack := 1, maxLocals := 1, code := prog_74_method_6_code, exceptionTable := #[], attributes := #[] }
def k9m2 : Method := { name := "type", desc := "()Lcom/example/sentencia/sentencia/StatementType;", sig := { parameters := [], returnType := some (.object "com/example/sentencia/sentencia/StatementType") }, accessFlags := 1, code := some k9c2 }
def k9c3 : Code := { maxStack := 1, maxLocals := 1, code := prog_74_method_7_code, exceptionTable := #[], attributes := #[] }
def k9m3 : Method := { name := "resultSetType", desc := "()Lcom/example/sentencia/sentencia/ResultSetType;", sig := { parameters := [], returnType := some (.object "com/example/sentencia/sentencia/ResultSetType") }, accessFlags := 1, code := some k9c3 }
def k9c4 : Code := { maxStack := 1, maxLocals := 1, code := prog_74_method_8_code, exceptionTable := #[], attributes := #[] }
def k9m4 : Method := { name := "fetchSize", desc := "()Ljava/lang/Integer;", sig := { parameters := [], returnType := some (.object "java/lang/Integer") }, accessFlags := 1, code := some k9c4 }
def k9c5 : Code := { maxStack := 1, maxLocals := 1, code := prog_74_method_9_code, exceptionTable := #[], attributes := #[] }
def k9m5 : Method := { name := "timeout", desc := "()Ljava/lang/Integer;", sig := { parameters := [], returnType := some (.object "java/lang/Integer") }, accessFlags := 1, code := some k9c5 }
def k9c6 : Code := { maxStack := 1, maxLocals := 1, code := prog_74_method_10_code, exceptionTable := #[], attributes := #[] }
def k9m6 : Method := { name := "flushCache", desc := "()Z", sig := { parameters := [], returnType := some .boolean }, accessFlags := 1, code := some k9c6 }
/-- com/example/sentencia/sentencia/StatementAttributes -/
def k9 : Class := { plain "com/example/sentencia/sentencia/StatementAttributes" (some 8) with
  accessFlags := 48
  interfaces := #[]
  cf := some (fileOf pool9 18 #[] #[{ accessFlags := 0, nameIndex := 5, descriptorIndex := 44, attributes := #[] }, { accessFlags := 0, nameIndex := 73, descriptorIndex := 74, attributes := #[] }, { accessFlags := 1, nameIndex := 8, descriptorIndex := 78, attributes := #[] }, { accessFlags := 1, nameIndex := 16, descriptorIndex := 79, attributes := #[] }, { accessFlags := 1, nameIndex := 27, descriptorIndex := 80, attributes := #[] }, { accessFlags := 1, nameIndex := 31, descriptorIndex := 80, attributes := #[] }, { accessFlags := 1, nameIndex := 34, descriptorIndex := 81, attributes := #[] }] 48 2 #[] #[{ accessFlags := 18, nameIndex := 8, descriptorIndex := 21, attributes := #[] }, { accessFlags := 18, nameIndex := 16, descriptorIndex := 24, attributes := #[] }, { accessFlags := 18, nameIndex := 27, descriptorIndex := 28, attributes := #[] }, { accessFlags := 18, nameIndex := 31, descriptorIndex := 28, attributes := #[] }, { accessFlags := 18, nameIndex := 34, descriptorIndex := 35, attributes := #[] }, { accessFlags := 24, nameIndex := 66, descriptorIndex := 69, attributes := #[] }])
  fields := #[{ name := "type", type := (.object "com/example/sentencia/sentencia/StatementType"), accessFlags := 18, slot := 0, constantValue := 0 }, { name := "resultSetType", type := (.object "com/example/sentencia/sentencia/ResultSetType"), accessFlags := 18, slot := 1, constantValue := 0 }, { name := "fetchSize", type := (.object "java/lang/Integer"), accessFlags := 18, slot := 2, constantValue := 0 }, { name := "timeout", type := (.object "java/lang/Integer"), accessFlags := 18, slot := 3, constantValue := 0 }, { name := "flushCache", type := .boolean, accessFlags := 18, slot := 4, constantValue := 0 }, { name := "DEFAULT", type := (.object "com/example/sentencia/sentencia/StatementAttributes"), accessFlags := 24, slot := 0, constantValue := 0 }]
  methods := #[k9m0, k9m1, k9m2, k9m3, k9m4, k9m5, k9m6]
  instanceTypes := #[(.object "com/example/sentencia/sentencia/StatementType"), (.object "com/example/sentencia/sentencia/ResultSetType"), (.object "java/lang/Integer"), (.object "java/lang/Integer"), .boolean]
  staticTypes := #[(.object "com/example/sentencia/sentencia/StatementAttributes")]
  resolved := Array.replicate 107 none
  statics := none }

def pool10 : Array CpInfo := pool [(2, .class_ 4), (1, u "java/lang/CharSequence"), (42, .class_ 48), (0, u "java/lang/CharSequence$1CodePointIterator"), (10, .class_ 60), (0, u "java/lang/CharSequence$1CharIterator"), (5, .class_ 67), (0, u "java/lang/Object")] 63

/-- java/lang/CharSequence -/
def k10 : Class := { plain "java/lang/CharSequence" (some 0) with
  accessFlags := 1537
  interfaces := #[]
  cf := some (fileOf pool10 2 #[.nestMembers #[47, 59]] #[] 1537 66 #[] #[])
  fields := #[]
  methods := #[]
  instanceTypes := #[]
  staticTypes := #[]
  resolved := Array.replicate 131 none
  statics := none }

def pool11 : Array CpInfo := pool [(1, .class_ 2), (0, u "java/lang/constant/ConstantDesc"), (0, .class_ 4), (0, u "java/lang/Object")] 32

/-- java/lang/constant/ConstantDesc -/
def k11 : Class := { plain "java/lang/constant/ConstantDesc" (some 0) with
  accessFlags := 1537
  interfaces := #[]
  cf := some (fileOf pool11 1 #[] #[] 1537 3 #[] #[])
  fields := #[]
  methods := #[]
  instanceTypes := #[]
  staticTypes := #[]
  resolved := Array.replicate 37 none
  statics := none }

def pool12 : Array CpInfo := pool [(2, .class_ 4), (1, u "java/lang/Object"), (0, u "<init>"), (0, u "()V"), (3, .class_ 12), (1, u "java/lang/String"), (0, u "value"), (0, u "[B"), (2, u "coder"), (0, u "B"), (2, u "hash"), (0, u "I"), (2, u "hashIsZero"), (0, u "Z"), (13, u "COMPACT_STRINGS"), (534, .class_ 576), (0, u "java/lang/CharSequence"), (22, u "CASE_INSENSITIVE_ORDER"), (0, u "Ljava/util/Comparator;"), (500, u "serialPersistentFields"), (0, u "[Ljava/io/ObjectStreamField;"), (0, .class_ 1104), (0, u "java/lang/String$CaseInsensitiveComparator"), (1, .class_ 1107), (0, u "java/io/Serializable"), (0, .class_ 1109), (0, u "java/lang/Comparable"), (0, .class_ 1111), (0, u "java/lang/constant/Constable"), (0, .class_ 1113), (0, u "java/lang/constant/ConstantDesc"), (2, u "serialVersionUID"), (0, u "J"), (3, u "REPL"), (0, u "C"), (2, u "LATIN1"), (1, u "UTF16")] 323

def k12m0 : Method := { name := "<init>", desc := "()V", sig := { parameters := [], returnType := none }, accessFlags := 1, code := none }
/-- java/lang/String -/
def k12 : Class := { plain "java/lang/String" (some 0) with
  accessFlags := 49
  interfaces := #[4, 3, 10, 2, 11]
  cf := some (fileOf pool12 10 #[.nestMembers #[1103]] #[{ accessFlags := 1, nameIndex := 5, descriptorIndex := 6, attributes := #[] }] 49 2 #[1106, 1108, 575, 1110, 1112] #[{ accessFlags := 18, nameIndex := 13, descriptorIndex := 14, attributes := #[] }, { accessFlags := 18, nameIndex := 17, descriptorIndex := 18, attributes := #[] }, { accessFlags := 2, nameIndex := 21, descriptorIndex := 22, attributes := #[] }, { accessFlags := 2, nameIndex := 25, descriptorIndex := 26, attributes := #[] }, { accessFlags := 26, nameIndex := 1116, descriptorIndex := 1117, attributes := #[] }, { accessFlags := 24, nameIndex := 40, descriptorIndex := 26, attributes := #[] }, { accessFlags := 26, nameIndex := 1101, descriptorIndex := 1102, attributes := #[] }, { accessFlags := 26, nameIndex := 1121, descriptorIndex := 1122, attributes := #[] }, { accessFlags := 25, nameIndex := 599, descriptorIndex := 600, attributes := #[] }, { accessFlags := 24, nameIndex := 1125, descriptorIndex := 18, attributes := #[] }, { accessFlags := 24, nameIndex := 1127, descriptorIndex := 18, attributes := #[] }])
  fields := #[{ name := "value", type := (.array .byte), accessFlags := 18, slot := 0, constantValue := 0 }, { name := "coder", type := .byte, accessFlags := 18, slot := 1, constantValue := 0 }, { name := "hash", type := .int, accessFlags := 2, slot := 2, constantValue := 0 }, { name := "hashIsZero", type := .boolean, accessFlags := 2, slot := 3, constantValue := 0 }, { name := "serialVersionUID", type := .long, accessFlags := 26, slot := 0, constantValue := 0 }, { name := "COMPACT_STRINGS", type := .boolean, accessFlags := 24, slot := 1, constantValue := 0 }, { name := "serialPersistentFields", type := (.array (.object "java/io/ObjectStreamField")), accessFlags := 26, slot := 2, constantValue := 0 }, { name := "REPL", type := .char, accessFlags := 26, slot := 3, constantValue := 0 }, { name := "CASE_INSENSITIVE_ORDER", type := (.object "java/util/Comparator"), accessFlags := 25, slot := 4, constantValue := 0 }, { name := "LATIN1", type := .byte, accessFlags := 24, slot := 5, constantValue := 0 }, { name := "UTF16", type := .byte, accessFlags := 24, slot := 6, constantValue := 0 }]
  methods := #[k12m0]
  instanceTypes := #[(.array .byte), .byte, .int, .boolean]
  staticTypes := #[.long, .boolean, (.array (.object "java/io/ObjectStreamField")), .char, (.object "java/util/Comparator"), .byte, .byte]
  resolved := Array.replicate 1451 none
  statics := none }

def pool13 : Array CpInfo := pool [(2, .class_ 4), (1, u "java/lang/Object"), (0, u "<init>"), (0, u "()V"), (35, .class_ 44), (1, u "java/util/Objects"), (0, u "requireNonNull"), (48, u "(Ljava/lang/Object;Ljava/lang/String;)Ljava/lang/Object;")] 89

def k13m0 : Method := { name := "<init>", desc := "()V", sig := { parameters := [], returnType := none }, accessFlags := 2, code := none }
def k13c1 : Code := { maxStack := 3, maxLocals := 2, code := jdk_31_method_11_code, exceptionTable := #[], attributes := #[] }
def k13m1 : Method := { name := "requireNonNull", desc := "(Ljava/lang/Object;Ljava/lang/String;)Ljava/lang/Object;", sig := { parameters := [(.object "java/lang/Object"), (.object "java/lang/String")], returnType := some (.object "java/lang/Object") }, accessFlags := 9, code := some k13c1 }
/-- java/util/Objects -/
def k13 : Class := { plain "java/util/Objects" (some 0) with
  accessFlags := 49
  interfaces := #[]
  cf := some (fileOf pool13 42 #[] #[{ accessFlags := 2, nameIndex := 5, descriptorIndex := 6, attributes := #[] }, { accessFlags := 9, nameIndex := 45, descriptorIndex := 94, attributes := #[] }] 49 2 #[] #[])
  fields := #[]
  methods := #[k13m0, k13m1]
  instanceTypes := #[]
  staticTypes := #[]
  resolved := Array.replicate 184 none
  statics := none }

def pool14 : Array CpInfo := pool [(1, .methodref 2 3), (0, .class_ 4), (0, .nameAndType 5 6), (0, u "java/lang/Object"), (0, u "<init>"), (0, u "()V"), (1, .class_ 10), (1, u "java/lang/Number"), (2, .class_ 14), (0, u "java/io/Serializable"), (0, u "serialVersionUID"), (0, u "J")] 20

def k14c0 : Code := { maxStack := 1, maxLocals := 1, code := jdk_18_method_1_code, exceptionTable := #[], attributes := #[] }
def k14m0 : Method := { name := "<init>", desc := "()V", sig := { parameters := [], returnType := none }, accessFlags := 1, code := some k14c0 }
/-- java/lang/Number -/
def k14 : Class := { plain "java/lang/Number" (some 0) with
  accessFlags := 1057
  interfaces := #[4]
  cf := some (fileOf pool14 8 #[] #[{ accessFlags := 1, nameIndex := 5, descriptorIndex := 6, attributes := #[] }] 1057 2 #[13] #[{ accessFlags := 26, nameIndex := 15, descriptorIndex := 16, attributes := #[] }])
  fields := #[{ name := "serialVersionUID", type := .long, accessFlags := 26, slot := 0, constantValue := 0 }]
  methods := #[k14m0]
  instanceTypes := #[]
  staticTypes := #[.long]
  resolved := Array.replicate 37 none
  statics := none }

def pool15 : Array CpInfo := pool [(1, .class_ 2), (0, u "java/lang/Integer"), (16, u "digits"), (0, u "[C"), (46, u "<init>"), (17, u "DigitOnes"), (0, u "[B"), (2, u "DigitTens"), (10, .nameAndType 67 101), (0, u "()V"), (19, u "()I"), (65, u "valueOf"), (0, u "(I)Ljava/lang/Integer;"), (0, .class_ 190), (0, u "java/lang/Integer$IntegerCache"), (0, .fieldref 189 192), (0, .nameAndType 193 194), (0, u "high"), (0, u "I"), (0, .fieldref 189 196), (0, .nameAndType 197 198), (0, u "cache"), (0, u "[Ljava/lang/Integer;"), (0, .methodref 1 200), (0, .nameAndType 67 201), (0, u "(I)V"), (0, .methodref 203 100), (0, .class_ 204), (0, u "java/lang/Number"), (0, .fieldref 1 206), (0, .nameAndType 207 194), (0, u "value"), (5, u "intValue"), (88, u "TYPE"), (0, u "Ljava/lang/Class;"), (0, .class_ 305), (0, u "java/lang/Comparable"), (0, .class_ 307), (0, u "java/lang/constant/Constable"), (0, .class_ 309), (0, u "java/lang/constant/ConstantDesc"), (0, u "MIN_VALUE"), (1, u "MAX_VALUE"), (3, u "SIZE"), (1, u "BYTES"), (1, u "serialVersionUID"), (0, u "J")] 131

def k15c0 : Code := { maxStack := 3, maxLocals := 1, code := jdk_33_method_22_code, exceptionTable := #[], attributes := #[] }
def k15m0 : Method := { name := "valueOf", desc := "(I)Ljava/lang/Integer;", sig := { parameters := [.int], returnType := some (.object "java/lang/Integer") }, accessFlags := 9, code := some k15c0 }
def k15c1 : Code := { maxStack := 2, maxLocals := 2, code := jdk_33_method_23_code, exceptionTable := #[], attributes := #[] }
def k15m1 : Method := { name := "<init>", desc := "(I)V", sig := { parameters := [.int], returnType := none }, accessFlags := 1, code := some k15c1 }
def k15c2 : Code := { maxStack := 1, maxLocals := 1, code := jdk_33_method_27_code, exceptionTable := #[], attributes := #[] }
def k15m2 : Method := { name := "intValue", desc := "()I", sig := { parameters := [], returnType := some .int }, accessFlags := 1, code := some k15c2 }
/-- java/lang/Integer -/
def k15 : Class := { plain "java/lang/Integer" (some 14) with
  accessFlags := 49
  interfaces := #[3, 2, 11]
  cf := some (fileOf pool15 1 #[.nestMembers #[189]] #[{ accessFlags := 9, nameIndex := 187, descriptorIndex := 188, attributes := #[] }, { accessFlags := 1, nameIndex := 67, descriptorIndex := 201, attributes := #[] }, { accessFlags := 1, nameIndex := 213, descriptorIndex := 121, attributes := #[] }] 49 203 #[304, 306, 308] #[{ accessFlags := 25, nameIndex := 310, descriptorIndex := 194, attributes := #[] }, { accessFlags := 25, nameIndex := 312, descriptorIndex := 194, attributes := #[] }, { accessFlags := 25, nameIndex := 302, descriptorIndex := 303, attributes := #[] }, { accessFlags := 24, nameIndex := 19, descriptorIndex := 20, attributes := #[] }, { accessFlags := 24, nameIndex := 89, descriptorIndex := 86, attributes := #[] }, { accessFlags := 24, nameIndex := 85, descriptorIndex := 86, attributes := #[] }, { accessFlags := 18, nameIndex := 207, descriptorIndex := 194, attributes := #[] }, { accessFlags := 25, nameIndex := 316, descriptorIndex := 194, attributes := #[] }, { accessFlags := 25, nameIndex := 318, descriptorIndex := 194, attributes := #[] }, { accessFlags := 26, nameIndex := 320, descriptorIndex := 321, attributes := #[] }])
  fields := #[{ name := "MIN_VALUE", type := .int, accessFlags := 25, slot := 0, constantValue := 0 }, { name := "MAX_VALUE", type := .int, accessFlags := 25, slot := 1, constantValue := 0 }, { name := "TYPE", type := (.object "java/lang/Class"), accessFlags := 25, slot := 2, constantValue := 0 }, { name := "digits", type := (.array .char), accessFlags := 24, slot := 3, constantValue := 0 }, { name := "DigitTens", type := (.array .byte), accessFlags := 24, slot := 4, constantValue := 0 }, { name := "DigitOnes", type := (.array .byte), accessFlags := 24, slot := 5, constantValue := 0 }, { name := "value", type := .int, accessFlags := 18, slot := 0, constantValue := 0 }, { name := "SIZE", type := .int, accessFlags := 25, slot := 6, constantValue := 0 }, { name := "BYTES", type := .int, accessFlags := 25, slot := 7, constantValue := 0 }, { name := "serialVersionUID", type := .long, accessFlags := 26, slot := 8, constantValue := 0 }]
  methods := #[k15m0, k15m1, k15m2]
  instanceTypes := #[.int]
  staticTypes := #[.int, .int, (.object "java/lang/Class"), (.array .char), (.array .byte), (.array .byte), .int, .int, .long]
  resolved := Array.replicate 453 none
  statics := none }

def pool16 : Array CpInfo := pool [(2, .class_ 4), (1, u "java/lang/Object"), (0, u "<init>"), (0, u "()V"), (0, .class_ 8), (0, u "java/lang/Integer"), (7, .class_ 18), (1, u "java/lang/Integer$IntegerCache"), (0, u "$assertionsDisabled"), (0, u "Z"), (26, u "high"), (0, u "I"), (8, u "archivedCache"), (0, u "[Ljava/lang/Integer;"), (12, u "cache"), (0, u "low")] 27

def k16m0 : Method := { name := "<init>", desc := "()V", sig := { parameters := [], returnType := none }, accessFlags := 2, code := none }
/-- java/lang/Integer$IntegerCache -/
def k16 : Class := { plain "java/lang/Integer$IntegerCache" (some 0) with
  accessFlags := 48
  interfaces := #[]
  cf := some (fileOf pool16 16 #[.nestHost 7] #[{ accessFlags := 2, nameIndex := 5, descriptorIndex := 6, attributes := #[] }] 48 2 #[] #[{ accessFlags := 24, nameIndex := 72, descriptorIndex := 48, attributes := #[] }, { accessFlags := 24, nameIndex := 47, descriptorIndex := 48, attributes := #[] }, { accessFlags := 24, nameIndex := 71, descriptorIndex := 58, attributes := #[] }, { accessFlags := 8, nameIndex := 57, descriptorIndex := 58, attributes := #[] }, { accessFlags := 4120, nameIndex := 19, descriptorIndex := 20, attributes := #[] }])
  fields := #[{ name := "low", type := .int, accessFlags := 24, slot := 0, constantValue := 0 }, { name := "high", type := .int, accessFlags := 24, slot := 1, constantValue := 0 }, { name := "cache", type := (.array (.object "java/lang/Integer")), accessFlags := 24, slot := 2, constantValue := 0 }, { name := "archivedCache", type := (.array (.object "java/lang/Integer")), accessFlags := 8, slot := 3, constantValue := 0 }, { name := "$assertionsDisabled", type := .boolean, accessFlags := 4120, slot := 4, constantValue := 0 }]
  methods := #[k16m0]
  instanceTypes := #[]
  staticTypes := #[.int, .int, (.array (.object "java/lang/Integer")), (.array (.object "java/lang/Integer")), .boolean]
  resolved := Array.replicate 100 none
  statics := some 2 }

def pool17 : Array CpInfo := pool [(1, u "java/lang/Cloneable"), (0, .class_ 1), (0, u "java/lang/Object"), (0, .class_ 3)] 3

/-- java/lang/Cloneable -/
def k17 : Class := { plain "java/lang/Cloneable" (some 0) with
  accessFlags := 1537
  interfaces := #[]
  cf := some (fileOf pool17 2 #[] #[] 1537 4 #[] #[])
  fields := #[]
  methods := #[]
  instanceTypes := #[]
  staticTypes := #[]
  resolved := Array.replicate 8 none
  statics := none }

/-- the primitive byte -/
def k18 : Class := { plain "byte" none with kind := .primitive 'B', accessFlags := 0x411 }
/-- [B -/
def k19 : Class := { plain "[B" (some 0) with kind := .array 18 .byte, interfaces := #[17, 4], accessFlags := 1041 }

/-- the primitive int -/
def k20 : Class := { plain "int" none with kind := .primitive 'I', accessFlags := 0x411 }
/-- [I -/
def k21 : Class := { plain "[I" (some 0) with kind := .array 20 .int, interfaces := #[17, 4], accessFlags := 1041 }

/-- [Ljava/lang/Integer; -/
def k22 : Class := { plain "[Ljava/lang/Integer;" (some 0) with kind := .array 15 (.object "java/lang/Integer"), interfaces := #[17, 4], accessFlags := 1041 }

def heap : Heap := #[{ cls := 6, slots := #[.ref 260, .ref 261, .ref 262, .null], vm := .statics 6 },
  { cls := 7, slots := #[.ref 263, .ref 264, .ref 265, .ref 266, .null], vm := .statics 7 },
  { cls := 16, slots := #[.int 0, .int 127, .ref 3, .null, .int 0], vm := .statics 16 },
  { cls := 22, slots := #[.ref 4, .ref 5, .ref 6, .ref 7, .ref 8, .ref 9, .ref 10, .ref 11, .ref 12, .ref 13, .ref 14, .ref 15, .ref 16, .ref 17, .ref 18, .ref 19, .ref 20, .ref 21, .ref 22, .ref 23, .ref 24, .ref 25, .ref 26, .ref 27, .ref 28, .ref 29, .ref 30, .ref 31, .ref 32, .ref 33, .ref 34, .ref 35, .ref 36, .ref 37, .ref 38, .ref 39, .ref 40, .ref 41, .ref 42, .ref 43, .ref 44, .ref 45, .ref 46, .ref 47, .ref 48, .ref 49, .ref 50, .ref 51, .ref 52, .ref 53, .ref 54, .ref 55, .ref 56, .ref 57, .ref 58, .ref 59, .ref 60, .ref 61, .ref 62, .ref 63, .ref 64, .ref 65, .ref 66, .ref 67, .ref 68, .ref 69, .ref 70, .ref 71, .ref 72, .ref 73, .ref 74, .ref 75, .ref 76, .ref 77, .ref 78, .ref 79, .ref 80, .ref 81, .ref 82, .ref 83, .ref 84, .ref 85, .ref 86, .ref 87, .ref 88, .ref 89, .ref 90, .ref 91, .ref 92, .ref 93, .ref 94, .ref 95, .ref 96, .ref 97, .ref 98, .ref 99, .ref 100, .ref 101, .ref 102, .ref 103, .ref 104, .ref 105, .ref 106, .ref 107, .ref 108, .ref 109, .ref 110, .ref 111, .ref 112, .ref 113, .ref 114, .ref 115, .ref 116, .ref 117, .ref 118, .ref 119, .ref 120, .ref 121, .ref 122, .ref 123, .ref 124, .ref 125, .ref 126, .ref 127, .ref 128, .ref 129, .ref 130, .ref 131, .ref 132, .ref 133, .ref 134, .ref 135, .ref 136, .ref 137, .ref 138, .ref 139, .ref 140, .ref 141, .ref 142, .ref 143, .ref 144, .ref 145, .ref 146, .ref 147, .ref 148, .ref 149, .ref 150, .ref 151, .ref 152, .ref 153, .ref 154, .ref 155, .ref 156, .ref 157, .ref 158, .ref 159, .ref 160, .ref 161, .ref 162, .ref 163, .ref 164, .ref 165, .ref 166, .ref 167, .ref 168, .ref 169, .ref 170, .ref 171, .ref 172, .ref 173, .ref 174, .ref 175, .ref 176, .ref 177, .ref 178, .ref 179, .ref 180, .ref 181, .ref 182, .ref 183, .ref 184, .ref 185, .ref 186, .ref 187, .ref 188, .ref 189, .ref 190, .ref 191, .ref 192, .ref 193, .ref 194, .ref 195, .ref 196, .ref 197, .ref 198, .ref 199, .ref 200, .ref 201, .ref 202, .ref 203, .ref 204, .ref 205, .ref 206, .ref 207, .ref 208, .ref 209, .ref 210, .ref 211, .ref 212, .ref 213, .ref 214, .ref 215, .ref 216, .ref 217, .ref 218, .ref 219, .ref 220, .ref 221, .ref 222, .ref 223, .ref 224, .ref 225, .ref 226, .ref 227, .ref 228, .ref 229, .ref 230, .ref 231, .ref 232, .ref 233, .ref 234, .ref 235, .ref 236, .ref 237, .ref 238, .ref 239, .ref 240, .ref 241, .ref 242, .ref 243, .ref 244, .ref 245, .ref 246, .ref 247, .ref 248, .ref 249, .ref 250, .ref 251, .ref 252, .ref 253, .ref 254, .ref 255, .ref 256, .ref 257, .ref 258, .ref 259], vm := .none },
  { cls := 15, slots := #[.int (-128)], vm := .none },
  { cls := 15, slots := #[.int (-127)], vm := .none },
  { cls := 15, slots := #[.int (-126)], vm := .none },
  { cls := 15, slots := #[.int (-125)], vm := .none },
  { cls := 15, slots := #[.int (-124)], vm := .none },
  { cls := 15, slots := #[.int (-123)], vm := .none },
  { cls := 15, slots := #[.int (-122)], vm := .none },
  { cls := 15, slots := #[.int (-121)], vm := .none },
  { cls := 15, slots := #[.int (-120)], vm := .none },
  { cls := 15, slots := #[.int (-119)], vm := .none },
  { cls := 15, slots := #[.int (-118)], vm := .none },
  { cls := 15, slots := #[.int (-117)], vm := .none },
  { cls := 15, slots := #[.int (-116)], vm := .none },
  { cls := 15, slots := #[.int (-115)], vm := .none },
  { cls := 15, slots := #[.int (-114)], vm := .none },
  { cls := 15, slots := #[.int (-113)], vm := .none },
  { cls := 15, slots := #[.int (-112)], vm := .none },
  { cls := 15, slots := #[.int (-111)], vm := .none },
  { cls := 15, slots := #[.int (-110)], vm := .none },
  { cls := 15, slots := #[.int (-109)], vm := .none },
  { cls := 15, slots := #[.int (-108)], vm := .none },
  { cls := 15, slots := #[.int (-107)], vm := .none },
  { cls := 15, slots := #[.int (-106)], vm := .none },
  { cls := 15, slots := #[.int (-105)], vm := .none },
  { cls := 15, slots := #[.int (-104)], vm := .none },
  { cls := 15, slots := #[.int (-103)], vm := .none },
  { cls := 15, slots := #[.int (-102)], vm := .none },
  { cls := 15, slots := #[.int (-101)], vm := .none },
  { cls := 15, slots := #[.int (-100)], vm := .none },
  { cls := 15, slots := #[.int (-99)], vm := .none },
  { cls := 15, slots := #[.int (-98)], vm := .none },
  { cls := 15, slots := #[.int (-97)], vm := .none },
  { cls := 15, slots := #[.int (-96)], vm := .none },
  { cls := 15, slots := #[.int (-95)], vm := .none },
  { cls := 15, slots := #[.int (-94)], vm := .none },
  { cls := 15, slots := #[.int (-93)], vm := .none },
  { cls := 15, slots := #[.int (-92)], vm := .none },
  { cls := 15, slots := #[.int (-91)], vm := .none },
  { cls := 15, slots := #[.int (-90)], vm := .none },
  { cls := 15, slots := #[.int (-89)], vm := .none },
  { cls := 15, slots := #[.int (-88)], vm := .none },
  { cls := 15, slots := #[.int (-87)], vm := .none },
  { cls := 15, slots := #[.int (-86)], vm := .none },
  { cls := 15, slots := #[.int (-85)], vm := .none },
  { cls := 15, slots := #[.int (-84)], vm := .none },
  { cls := 15, slots := #[.int (-83)], vm := .none },
  { cls := 15, slots := #[.int (-82)], vm := .none },
  { cls := 15, slots := #[.int (-81)], vm := .none },
  { cls := 15, slots := #[.int (-80)], vm := .none },
  { cls := 15, slots := #[.int (-79)], vm := .none },
  { cls := 15, slots := #[.int (-78)], vm := .none },
  { cls := 15, slots := #[.int (-77)], vm := .none },
  { cls := 15, slots := #[.int (-76)], vm := .none },
  { cls := 15, slots := #[.int (-75)], vm := .none },
  { cls := 15, slots := #[.int (-74)], vm := .none },
  { cls := 15, slots := #[.int (-73)], vm := .none },
  { cls := 15, slots := #[.int (-72)], vm := .none },
  { cls := 15, slots := #[.int (-71)], vm := .none },
  { cls := 15, slots := #[.int (-70)], vm := .none },
  { cls := 15, slots := #[.int (-69)], vm := .none },
  { cls := 15, slots := #[.int (-68)], vm := .none },
  { cls := 15, slots := #[.int (-67)], vm := .none },
  { cls := 15, slots := #[.int (-66)], vm := .none },
  { cls := 15, slots := #[.int (-65)], vm := .none },
  { cls := 15, slots := #[.int (-64)], vm := .none },
  { cls := 15, slots := #[.int (-63)], vm := .none },
  { cls := 15, slots := #[.int (-62)], vm := .none },
  { cls := 15, slots := #[.int (-61)], vm := .none },
  { cls := 15, slots := #[.int (-60)], vm := .none },
  { cls := 15, slots := #[.int (-59)], vm := .none },
  { cls := 15, slots := #[.int (-58)], vm := .none },
  { cls := 15, slots := #[.int (-57)], vm := .none },
  { cls := 15, slots := #[.int (-56)], vm := .none },
  { cls := 15, slots := #[.int (-55)], vm := .none },
  { cls := 15, slots := #[.int (-54)], vm := .none },
  { cls := 15, slots := #[.int (-53)], vm := .none },
  { cls := 15, slots := #[.int (-52)], vm := .none },
  { cls := 15, slots := #[.int (-51)], vm := .none },
  { cls := 15, slots := #[.int (-50)], vm := .none },
  { cls := 15, slots := #[.int (-49)], vm := .none },
  { cls := 15, slots := #[.int (-48)], vm := .none },
  { cls := 15, slots := #[.int (-47)], vm := .none },
  { cls := 15, slots := #[.int (-46)], vm := .none },
  { cls := 15, slots := #[.int (-45)], vm := .none },
  { cls := 15, slots := #[.int (-44)], vm := .none },
  { cls := 15, slots := #[.int (-43)], vm := .none },
  { cls := 15, slots := #[.int (-42)], vm := .none },
  { cls := 15, slots := #[.int (-41)], vm := .none },
  { cls := 15, slots := #[.int (-40)], vm := .none },
  { cls := 15, slots := #[.int (-39)], vm := .none },
  { cls := 15, slots := #[.int (-38)], vm := .none },
  { cls := 15, slots := #[.int (-37)], vm := .none },
  { cls := 15, slots := #[.int (-36)], vm := .none },
  { cls := 15, slots := #[.int (-35)], vm := .none },
  { cls := 15, slots := #[.int (-34)], vm := .none },
  { cls := 15, slots := #[.int (-33)], vm := .none },
  { cls := 15, slots := #[.int (-32)], vm := .none },
  { cls := 15, slots := #[.int (-31)], vm := .none },
  { cls := 15, slots := #[.int (-30)], vm := .none },
  { cls := 15, slots := #[.int (-29)], vm := .none },
  { cls := 15, slots := #[.int (-28)], vm := .none },
  { cls := 15, slots := #[.int (-27)], vm := .none },
  { cls := 15, slots := #[.int (-26)], vm := .none },
  { cls := 15, slots := #[.int (-25)], vm := .none },
  { cls := 15, slots := #[.int (-24)], vm := .none },
  { cls := 15, slots := #[.int (-23)], vm := .none },
  { cls := 15, slots := #[.int (-22)], vm := .none },
  { cls := 15, slots := #[.int (-21)], vm := .none },
  { cls := 15, slots := #[.int (-20)], vm := .none },
  { cls := 15, slots := #[.int (-19)], vm := .none },
  { cls := 15, slots := #[.int (-18)], vm := .none },
  { cls := 15, slots := #[.int (-17)], vm := .none },
  { cls := 15, slots := #[.int (-16)], vm := .none },
  { cls := 15, slots := #[.int (-15)], vm := .none },
  { cls := 15, slots := #[.int (-14)], vm := .none },
  { cls := 15, slots := #[.int (-13)], vm := .none },
  { cls := 15, slots := #[.int (-12)], vm := .none },
  { cls := 15, slots := #[.int (-11)], vm := .none },
  { cls := 15, slots := #[.int (-10)], vm := .none },
  { cls := 15, slots := #[.int (-9)], vm := .none },
  { cls := 15, slots := #[.int (-8)], vm := .none },
  { cls := 15, slots := #[.int (-7)], vm := .none },
  { cls := 15, slots := #[.int (-6)], vm := .none },
  { cls := 15, slots := #[.int (-5)], vm := .none },
  { cls := 15, slots := #[.int (-4)], vm := .none },
  { cls := 15, slots := #[.int (-3)], vm := .none },
  { cls := 15, slots := #[.int (-2)], vm := .none },
  { cls := 15, slots := #[.int (-1)], vm := .none },
  { cls := 15, slots := #[.int (0)], vm := .none },
  { cls := 15, slots := #[.int (1)], vm := .none },
  { cls := 15, slots := #[.int (2)], vm := .none },
  { cls := 15, slots := #[.int (3)], vm := .none },
  { cls := 15, slots := #[.int (4)], vm := .none },
  { cls := 15, slots := #[.int (5)], vm := .none },
  { cls := 15, slots := #[.int (6)], vm := .none },
  { cls := 15, slots := #[.int (7)], vm := .none },
  { cls := 15, slots := #[.int (8)], vm := .none },
  { cls := 15, slots := #[.int (9)], vm := .none },
  { cls := 15, slots := #[.int (10)], vm := .none },
  { cls := 15, slots := #[.int (11)], vm := .none },
  { cls := 15, slots := #[.int (12)], vm := .none },
  { cls := 15, slots := #[.int (13)], vm := .none },
  { cls := 15, slots := #[.int (14)], vm := .none },
  { cls := 15, slots := #[.int (15)], vm := .none },
  { cls := 15, slots := #[.int (16)], vm := .none },
  { cls := 15, slots := #[.int (17)], vm := .none },
  { cls := 15, slots := #[.int (18)], vm := .none },
  { cls := 15, slots := #[.int (19)], vm := .none },
  { cls := 15, slots := #[.int (20)], vm := .none },
  { cls := 15, slots := #[.int (21)], vm := .none },
  { cls := 15, slots := #[.int (22)], vm := .none },
  { cls := 15, slots := #[.int (23)], vm := .none },
  { cls := 15, slots := #[.int (24)], vm := .none },
  { cls := 15, slots := #[.int (25)], vm := .none },
  { cls := 15, slots := #[.int (26)], vm := .none },
  { cls := 15, slots := #[.int (27)], vm := .none },
  { cls := 15, slots := #[.int (28)], vm := .none },
  { cls := 15, slots := #[.int (29)], vm := .none },
  { cls := 15, slots := #[.int (30)], vm := .none },
  { cls := 15, slots := #[.int (31)], vm := .none },
  { cls := 15, slots := #[.int (32)], vm := .none },
  { cls := 15, slots := #[.int (33)], vm := .none },
  { cls := 15, slots := #[.int (34)], vm := .none },
  { cls := 15, slots := #[.int (35)], vm := .none },
  { cls := 15, slots := #[.int (36)], vm := .none },
  { cls := 15, slots := #[.int (37)], vm := .none },
  { cls := 15, slots := #[.int (38)], vm := .none },
  { cls := 15, slots := #[.int (39)], vm := .none },
  { cls := 15, slots := #[.int (40)], vm := .none },
  { cls := 15, slots := #[.int (41)], vm := .none },
  { cls := 15, slots := #[.int (42)], vm := .none },
  { cls := 15, slots := #[.int (43)], vm := .none },
  { cls := 15, slots := #[.int (44)], vm := .none },
  { cls := 15, slots := #[.int (45)], vm := .none },
  { cls := 15, slots := #[.int (46)], vm := .none },
  { cls := 15, slots := #[.int (47)], vm := .none },
  { cls := 15, slots := #[.int (48)], vm := .none },
  { cls := 15, slots := #[.int (49)], vm := .none },
  { cls := 15, slots := #[.int (50)], vm := .none },
  { cls := 15, slots := #[.int (51)], vm := .none },
  { cls := 15, slots := #[.int (52)], vm := .none },
  { cls := 15, slots := #[.int (53)], vm := .none },
  { cls := 15, slots := #[.int (54)], vm := .none },
  { cls := 15, slots := #[.int (55)], vm := .none },
  { cls := 15, slots := #[.int (56)], vm := .none },
  { cls := 15, slots := #[.int (57)], vm := .none },
  { cls := 15, slots := #[.int (58)], vm := .none },
  { cls := 15, slots := #[.int (59)], vm := .none },
  { cls := 15, slots := #[.int (60)], vm := .none },
  { cls := 15, slots := #[.int (61)], vm := .none },
  { cls := 15, slots := #[.int (62)], vm := .none },
  { cls := 15, slots := #[.int (63)], vm := .none },
  { cls := 15, slots := #[.int (64)], vm := .none },
  { cls := 15, slots := #[.int (65)], vm := .none },
  { cls := 15, slots := #[.int (66)], vm := .none },
  { cls := 15, slots := #[.int (67)], vm := .none },
  { cls := 15, slots := #[.int (68)], vm := .none },
  { cls := 15, slots := #[.int (69)], vm := .none },
  { cls := 15, slots := #[.int (70)], vm := .none },
  { cls := 15, slots := #[.int (71)], vm := .none },
  { cls := 15, slots := #[.int (72)], vm := .none },
  { cls := 15, slots := #[.int (73)], vm := .none },
  { cls := 15, slots := #[.int (74)], vm := .none },
  { cls := 15, slots := #[.int (75)], vm := .none },
  { cls := 15, slots := #[.int (76)], vm := .none },
  { cls := 15, slots := #[.int (77)], vm := .none },
  { cls := 15, slots := #[.int (78)], vm := .none },
  { cls := 15, slots := #[.int (79)], vm := .none },
  { cls := 15, slots := #[.int (80)], vm := .none },
  { cls := 15, slots := #[.int (81)], vm := .none },
  { cls := 15, slots := #[.int (82)], vm := .none },
  { cls := 15, slots := #[.int (83)], vm := .none },
  { cls := 15, slots := #[.int (84)], vm := .none },
  { cls := 15, slots := #[.int (85)], vm := .none },
  { cls := 15, slots := #[.int (86)], vm := .none },
  { cls := 15, slots := #[.int (87)], vm := .none },
  { cls := 15, slots := #[.int (88)], vm := .none },
  { cls := 15, slots := #[.int (89)], vm := .none },
  { cls := 15, slots := #[.int (90)], vm := .none },
  { cls := 15, slots := #[.int (91)], vm := .none },
  { cls := 15, slots := #[.int (92)], vm := .none },
  { cls := 15, slots := #[.int (93)], vm := .none },
  { cls := 15, slots := #[.int (94)], vm := .none },
  { cls := 15, slots := #[.int (95)], vm := .none },
  { cls := 15, slots := #[.int (96)], vm := .none },
  { cls := 15, slots := #[.int (97)], vm := .none },
  { cls := 15, slots := #[.int (98)], vm := .none },
  { cls := 15, slots := #[.int (99)], vm := .none },
  { cls := 15, slots := #[.int (100)], vm := .none },
  { cls := 15, slots := #[.int (101)], vm := .none },
  { cls := 15, slots := #[.int (102)], vm := .none },
  { cls := 15, slots := #[.int (103)], vm := .none },
  { cls := 15, slots := #[.int (104)], vm := .none },
  { cls := 15, slots := #[.int (105)], vm := .none },
  { cls := 15, slots := #[.int (106)], vm := .none },
  { cls := 15, slots := #[.int (107)], vm := .none },
  { cls := 15, slots := #[.int (108)], vm := .none },
  { cls := 15, slots := #[.int (109)], vm := .none },
  { cls := 15, slots := #[.int (110)], vm := .none },
  { cls := 15, slots := #[.int (111)], vm := .none },
  { cls := 15, slots := #[.int (112)], vm := .none },
  { cls := 15, slots := #[.int (113)], vm := .none },
  { cls := 15, slots := #[.int (114)], vm := .none },
  { cls := 15, slots := #[.int (115)], vm := .none },
  { cls := 15, slots := #[.int (116)], vm := .none },
  { cls := 15, slots := #[.int (117)], vm := .none },
  { cls := 15, slots := #[.int (118)], vm := .none },
  { cls := 15, slots := #[.int (119)], vm := .none },
  { cls := 15, slots := #[.int (120)], vm := .none },
  { cls := 15, slots := #[.int (121)], vm := .none },
  { cls := 15, slots := #[.int (122)], vm := .none },
  { cls := 15, slots := #[.int (123)], vm := .none },
  { cls := 15, slots := #[.int (124)], vm := .none },
  { cls := 15, slots := #[.int (125)], vm := .none },
  { cls := 15, slots := #[.int (126)], vm := .none },
  { cls := 15, slots := #[.int (127)], vm := .none },
  { cls := 6, slots := #[.null, .int 0, .int 0], vm := .none },
  { cls := 6, slots := #[.null, .int 1, .int 0], vm := .none },
  { cls := 6, slots := #[.null, .int 2, .int 0], vm := .none },
  { cls := 7, slots := #[.null, .int 0, .int 0, .null], vm := .none },
  { cls := 7, slots := #[.null, .int 1, .int 0, .null], vm := .none },
  { cls := 7, slots := #[.null, .int 2, .int 0, .null], vm := .none },
  { cls := 7, slots := #[.null, .int 3, .int 0, .null], vm := .none }]
def classes : Array Class := #[k0, k1, k2, k3, k4, k5, k6, k7, k8, k9, k10, k11, k12, k13, k14, k15, k16, k17, k18, k19, k20, k21, k22]
def interned : List (Array UInt16 × Addr) := []
def slotsUsed : Nat := 551
def theMethod : MethodId := ⟨1, 4⟩
def args0 : Array Value := #[.int 0, .int 1, .int 2, .int 3, .int 4, .int 5]
def aboutOver (below : List Frame) : State where
  vm := { classes := classes, interned := interned.toArray }
  heap := heap
  slotsUsed := slotsUsed
  threads := #[{ frames := .invoking theMethod args0 :: below }]
def below0 : List Frame := [.native { method := ⟨0, 0⟩, args := #[] }]
def about1 : State := aboutOver below0
def p0 : Program := .bare "" "" ""
def e0 : Env := launch0.env 0 0 0
theorem w_frames : about1.frames = Frame.invoking theMethod args0 :: below0 := rfl
set_option maxRecDepth 65536 in
theorem w_args : argsFit about1.vm theMethod args0 = true := by decide +kernel
set_option maxRecDepth 65536 in
theorem w_heap : heapFits about1 = true := by decide +kernel
set_option maxRecDepth 65536 in
theorem w_runnable : about1.curStatus? = some .runnable := by decide +kernel
set_option maxRecDepth 65536 in
theorem w_alone : about1.alone = true := by decide +kernel
set_option maxRecDepth 65536 in
theorem w_named : about1.methodNamed? x = some theMethod := by decide +kernel
set_option maxRecDepth 65536 in
theorem w_hears : about1.hears theMethod below0 = true := by decide +kernel
set_option maxRecDepth 65536 in
theorem w_ripe : about1.ripe theMethod args0 below0 = true := by decide +kernel
theorem w_running : about1.status = .running := rfl
set_option maxRecDepth 65536 in
theorem w_room : about1.hasRoom e0.platform room_1 = true :=
  launch0.hasRoom_least _ room_1 (by decide +kernel) (by decide +kernel) (by decide +kernel) (by decide +kernel) (by decide +kernel) (by decide +kernel)
theorem allAtoms_all (ts : List Jvm.Cond) (a : Array Jvm.Value) (st : Jvm.State) : (allAtoms ts).before a st = ts.all (fun c => c.before a st) := by
  induction ts with
  | nil => rfl
  | cons c t ih =>
    show (Jvm.Cond.and c (allAtoms t)).before a st = _
    rw [Jvm.Cond.before_and, ih, List.all_cons]
def words1 : List Jvm.Cond := Jvm.Cond.code x code maxLocals ret :: tables_1
/-- a 'code' word, met by the world's own term for the bytes: nothing is compared byte by byte -/
theorem code_word {y : MethodName} {bytes : ByteArray} {mx : Nat} {rt : Option FieldType} {a : Array Value} {s : State} {m : MethodId} {meth : Method} {c : Code} (h1 : s.methodNamed? y = some m) (h2 : s.vm.method? m = some meth) (h3 : meth.code = some c) (h4 : c.code = bytes)
    (h5 : (c.maxLocals == mx && c.exceptionTable.isEmpty && decide (c.maxStack ≤ mostOperands) && decide (meth.sig.returnType = rt) && !meth.locks && decide (parseMethodDescriptor y.desc = some meth.sig)) = true) : (Jvm.Cond.code y bytes mx rt).before a s = true := by
  simp only [Bool.and_eq_true, beq_iff_eq, Bool.not_eq_true', decide_eq_true_eq] at h5
  obtain ⟨⟨⟨⟨⟨g1, g2⟩, g3⟩, g4⟩, g5⟩, g6⟩ := h5
  simp [Cond.before, Cond.holds, Cond.value, h1, h2, h3, h4, g1, g2, g3, g4, g5, g6]
def isCode : Jvm.Cond → Bool
  | .code _ _ _ _ => true
  | _ => false
theorem all_split {L : List Jvm.Cond} {P : Jvm.Cond → Bool} (h1 : L.all (fun c => isCode c || P c) = true) (h2 : ∀ c ∈ L.filter isCode, P c = true) : L.all P = true := by
  refine List.all_eq_true.mpr fun c hc => ?_
  have h := List.all_eq_true.mp h1 c hc
  rcases Bool.eq_false_or_eq_true (isCode c) with hi | hi
  · exact h2 c (List.mem_filter.mpr ⟨hc, hi⟩)
  · simpa [hi] using h
set_option maxRecDepth 65536 in
theorem w_c0 : (Jvm.Cond.code x code maxLocals ret).before args0 about1 = true := code_word (m := ⟨1, 4⟩) (meth := k1m4) (c := k1c4) (by decide +kernel) rfl rfl rfl (by decide +kernel)
set_option maxRecDepth 65536 in
theorem w_c1 : (Jvm.Cond.code ({ cls := "com/example/sentencia/sentencia/StatementAttributesWithFetchSizePinLaw", name := "pickType", desc := "(I)Lcom/example/sentencia/sentencia/StatementType;" } : Jvm.MethodName) method_2_code (2 : Nat) (Option.some (Jvm.ClassFile.FieldType.object "com/example/sentencia/sentencia/StatementType"))).before args0 about1 = true := code_word (m := ⟨1, 1⟩) (meth := k1m1) (c := k1c1) (by decide +kernel) rfl rfl rfl (by decide +kernel)
set_option maxRecDepth 65536 in
theorem w_c2 : (Jvm.Cond.code ({ cls := "com/example/sentencia/sentencia/StatementAttributesWithFetchSizePinLaw", name := "pickRs", desc := "(I)Lcom/example/sentencia/sentencia/ResultSetType;" } : Jvm.MethodName) method_3_code (2 : Nat) (Option.some (Jvm.ClassFile.FieldType.object "com/example/sentencia/sentencia/ResultSetType"))).before args0 about1 = true := code_word (m := ⟨1, 2⟩) (meth := k1m2) (c := k1c2) (by decide +kernel) rfl rfl rfl (by decide +kernel)
set_option maxRecDepth 65536 in
theorem w_c3 : (Jvm.Cond.code ({ cls := "com/example/sentencia/sentencia/StatementAttributes", name := "<init>", desc := "(Lcom/example/sentencia/sentencia/StatementType;Lcom/example/sentencia/sentencia/ResultSetType;Ljava/lang/Integer;Ljava/lang/Integer;Z)V" } : Jvm.MethodName) prog_74_method_1_code (6 : Nat) (Option.none : Option Jvm.ClassFile.FieldType)).before args0 about1 = true := code_word (m := ⟨9, 0⟩) (meth := k9m0) (c := k9c0) (by decide +kernel) rfl rfl rfl (by decide +kernel)
set_option maxRecDepth 65536 in
theorem w_c4 : (Jvm.Cond.code ({ cls := "java/lang/Record", name := "<init>", desc := "()V" } : Jvm.MethodName) jdk_30_method_1_code (1 : Nat) (Option.none : Option Jvm.ClassFile.FieldType)).before args0 about1 = true := code_word (m := ⟨8, 0⟩) (meth := k8m0) (c := k8c0) (by decide +kernel) rfl rfl rfl (by decide +kernel)
set_option maxRecDepth 65536 in
theorem w_c5 : (Jvm.Cond.code ({ cls := "java/lang/Object", name := "<init>", desc := "()V" } : Jvm.MethodName) object_method_1_code (1 : Nat) (Option.none : Option Jvm.ClassFile.FieldType)).before args0 about1 = true := code_word (m := ⟨0, 0⟩) (meth := k0m0) (c := k0c0) (by decide +kernel) rfl rfl rfl (by decide +kernel)
set_option maxRecDepth 65536 in
theorem w_c6 : (Jvm.Cond.code ({ cls := "java/util/Objects", name := "requireNonNull", desc := "(Ljava/lang/Object;Ljava/lang/String;)Ljava/lang/Object;" } : Jvm.MethodName) jdk_31_method_11_code (2 : Nat) (Option.some (Jvm.ClassFile.FieldType.object "java/lang/Object"))).before args0 about1 = true := code_word (m := ⟨13, 1⟩) (meth := k13m1) (c := k13c1) (by decide +kernel) rfl rfl rfl (by decide +kernel)
set_option maxRecDepth 65536 in
theorem w_c7 : (Jvm.Cond.code ({ cls := "com/example/sentencia/sentencia/StatementAttributes", name := "withFetchSize", desc := "(I)Lcom/example/sentencia/sentencia/StatementAttributes;" } : Jvm.MethodName) prog_74_method_2_code (2 : Nat) (Option.some (Jvm.ClassFile.FieldType.object "com/example/sentencia/sentencia/StatementAttributes"))).before args0 about1 = true := code_word (m := ⟨9, 1⟩) (meth := k9m1) (c := k9c1) (by decide +kernel) rfl rfl rfl (by decide +kernel)
set_option maxRecDepth 65536 in
theorem w_c8 : (Jvm.Cond.code ({ cls := "java/lang/Integer", name := "valueOf", desc := "(I)Ljava/lang/Integer;" } : Jvm.MethodName) jdk_33_method_22_code (1 : Nat) (Option.some (Jvm.ClassFile.FieldType.object "java/lang/Integer"))).before args0 about1 = true := code_word (m := ⟨15, 0⟩) (meth := k15m0) (c := k15c0) (by decide +kernel) rfl rfl rfl (by decide +kernel)
set_option maxRecDepth 65536 in
theorem w_c9 : (Jvm.Cond.code ({ cls := "com/example/sentencia/sentencia/StatementAttributes", name := "fetchSize", desc := "()Ljava/lang/Integer;" } : Jvm.MethodName) prog_74_method_8_code (1 : Nat) (Option.some (Jvm.ClassFile.FieldType.object "java/lang/Integer"))).before args0 about1 = true := code_word (m := ⟨9, 4⟩) (meth := k9m4) (c := k9c4) (by decide +kernel) rfl rfl rfl (by decide +kernel)
set_option maxRecDepth 65536 in
theorem w_c10 : (Jvm.Cond.code ({ cls := "java/lang/Integer", name := "intValue", desc := "()I" } : Jvm.MethodName) jdk_33_method_27_code (1 : Nat) (Option.some Jvm.ClassFile.FieldType.int)).before args0 about1 = true := code_word (m := ⟨15, 2⟩) (meth := k15m2) (c := k15c2) (by decide +kernel) rfl rfl rfl (by decide +kernel)
set_option maxRecDepth 65536 in
theorem w_c11 : (Jvm.Cond.code ({ cls := "com/example/sentencia/sentencia/StatementAttributes", name := "type", desc := "()Lcom/example/sentencia/sentencia/StatementType;" } : Jvm.MethodName) prog_74_method_6_code (1 : Nat) (Option.some (Jvm.ClassFile.FieldType.object "com/example/sentencia/sentencia/StatementType"))).before args0 about1 = true := code_word (m := ⟨9, 2⟩) (meth := k9m2) (c := k9c2) (by decide +kernel) rfl rfl rfl (by decide +kernel)
set_option maxRecDepth 65536 in
theorem w_c12 : (Jvm.Cond.code ({ cls := "com/example/sentencia/sentencia/StatementAttributes", name := "resultSetType", desc := "()Lcom/example/sentencia/sentencia/ResultSetType;" } : Jvm.MethodName) prog_74_method_7_code (1 : Nat) (Option.some (Jvm.ClassFile.FieldType.object "com/example/sentencia/sentencia/ResultSetType"))).before args0 about1 = true := code_word (m := ⟨9, 3⟩) (meth := k9m3) (c := k9c3) (by decide +kernel) rfl rfl rfl (by decide +kernel)
set_option maxRecDepth 65536 in
theorem w_c13 : (Jvm.Cond.code ({ cls := "com/example/sentencia/sentencia/StatementAttributes", name := "timeout", desc := "()Ljava/lang/Integer;" } : Jvm.MethodName) prog_74_method_9_code (1 : Nat) (Option.some (Jvm.ClassFile.FieldType.object "java/lang/Integer"))).before args0 about1 = true := code_word (m := ⟨9, 5⟩) (meth := k9m5) (c := k9c5) (by decide +kernel) rfl rfl rfl (by decide +kernel)
set_option maxRecDepth 65536 in
theorem w_c14 : (Jvm.Cond.code ({ cls := "com/example/sentencia/sentencia/StatementAttributesWithFetchSizePinLaw", name := "sameInt", desc := "(Ljava/lang/Integer;Ljava/lang/Integer;)Z" } : Jvm.MethodName) method_4_code (2 : Nat) (Option.some Jvm.ClassFile.FieldType.boolean)).before args0 about1 = true := code_word (m := ⟨1, 3⟩) (meth := k1m3) (c := k1c3) (by decide +kernel) rfl rfl rfl (by decide +kernel)
set_option maxRecDepth 65536 in
theorem w_c15 : (Jvm.Cond.code ({ cls := "com/example/sentencia/sentencia/StatementAttributes", name := "flushCache", desc := "()Z" } : Jvm.MethodName) prog_74_method_10_code (1 : Nat) (Option.some Jvm.ClassFile.FieldType.boolean)).before args0 about1 = true := code_word (m := ⟨9, 6⟩) (meth := k9m6) (c := k9c6) (by decide +kernel) rfl rfl rfl (by decide +kernel)
set_option maxRecDepth 65536 in
theorem w_c16 : (Jvm.Cond.code ({ cls := "java/lang/Integer", name := "<init>", desc := "(I)V" } : Jvm.MethodName) jdk_33_method_23_code (2 : Nat) (Option.none : Option Jvm.ClassFile.FieldType)).before args0 about1 = true := code_word (m := ⟨15, 1⟩) (meth := k15m1) (c := k15c1) (by decide +kernel) rfl rfl rfl (by decide +kernel)
set_option maxRecDepth 65536 in
theorem w_c17 : (Jvm.Cond.code ({ cls := "java/lang/Number", name := "<init>", desc := "()V" } : Jvm.MethodName) jdk_18_method_1_code (1 : Nat) (Option.none : Option Jvm.ClassFile.FieldType)).before args0 about1 = true := code_word (m := ⟨14, 0⟩) (meth := k14m0) (c := k14c0) (by decide +kernel) rfl rfl rfl (by decide +kernel)
def codes1 : List Jvm.Cond := [Jvm.Cond.code x code maxLocals ret, Jvm.Cond.code ({ cls := "com/example/sentencia/sentencia/StatementAttributesWithFetchSizePinLaw", name := "pickType", desc := "(I)Lcom/example/sentencia/sentencia/StatementType;" } : Jvm.MethodName) method_2_code (2 : Nat) (Option.some (Jvm.ClassFile.FieldType.object "com/example/sentencia/sentencia/StatementType")), Jvm.Cond.code ({ cls := "com/example/sentencia/sentencia/StatementAttributesWithFetchSizePinLaw", name := "pickRs", desc := "(I)Lcom/example/sentencia/sentencia/ResultSetType;" } : Jvm.MethodName) method_3_code (2 : Nat) (Option.some (Jvm.ClassFile.FieldType.object "com/example/sentencia/sentencia/ResultSetType")), Jvm.Cond.code ({ cls := "com/example/sentencia/sentencia/StatementAttributes", name := "<init>", desc := "(Lcom/example/sentencia/sentencia/StatementType;Lcom/example/sentencia/sentencia/ResultSetType;Ljava/lang/Integer;Ljava/lang/Integer;Z)V" } : Jvm.MethodName) prog_74_method_1_code (6 : Nat) (Option.none : Option Jvm.ClassFile.FieldType), Jvm.Cond.code ({ cls := "java/lang/Record", name := "<init>", desc := "()V" } : Jvm.MethodName) jdk_30_method_1_code (1 : Nat) (Option.none : Option Jvm.ClassFile.FieldType), Jvm.Cond.code ({ cls := "java/lang/Object", name := "<init>", desc := "()V" } : Jvm.MethodName) object_method_1_code (1 : Nat) (Option.none : Option Jvm.ClassFile.FieldType), Jvm.Cond.code ({ cls := "java/util/Objects", name := "requireNonNull", desc := "(Ljava/lang/Object;Ljava/lang/String;)Ljava/lang/Object;" } : Jvm.MethodName) jdk_31_method_11_code (2 : Nat) (Option.some (Jvm.ClassFile.FieldType.object "java/lang/Object")), Jvm.Cond.code ({ cls := "com/example/sentencia/sentencia/StatementAttributes", name := "withFetchSize", desc := "(I)Lcom/example/sentencia/sentencia/StatementAttributes;" } : Jvm.MethodName) prog_74_method_2_code (2 : Nat) (Option.some (Jvm.ClassFile.FieldType.object "com/example/sentencia/sentencia/StatementAttributes")), Jvm.Cond.code ({ cls := "java/lang/Integer", name := "valueOf", desc := "(I)Ljava/lang/Integer;" } : Jvm.MethodName) jdk_33_method_22_code (1 : Nat) (Option.some (Jvm.ClassFile.FieldType.object "java/lang/Integer")), Jvm.Cond.code ({ cls := "com/example/sentencia/sentencia/StatementAttributes", name := "fetchSize", desc := "()Ljava/lang/Integer;" } : Jvm.MethodName) prog_74_method_8_code (1 : Nat) (Option.some (Jvm.ClassFile.FieldType.object "java/lang/Integer")), Jvm.Cond.code ({ cls := "java/lang/Integer", name := "intValue", desc := "()I" } : Jvm.MethodName) jdk_33_method_27_code (1 : Nat) (Option.some Jvm.ClassFile.FieldType.int), Jvm.Cond.code ({ cls := "com/example/sentencia/sentencia/StatementAttributes", name := "type", desc := "()Lcom/example/sentencia/sentencia/StatementType;" } : Jvm.MethodName) prog_74_method_6_code (1 : Nat) (Option.some (Jvm.ClassFile.FieldType.object "com/example/sentencia/sentencia/StatementType")), Jvm.Cond.code ({ cls := "com/example/sentencia/sentencia/StatementAttributes", name := "resultSetType", desc := "()Lcom/example/sentencia/sentencia/ResultSetType;" } : Jvm.MethodName) prog_74_method_7_code (1 : Nat) (Option.some (Jvm.ClassFile.FieldType.object "com/example/sentencia/sentencia/ResultSetType")), Jvm.Cond.code ({ cls := "com/example/sentencia/sentencia/StatementAttributes", name := "timeout", desc := "()Ljava/lang/Integer;" } : Jvm.MethodName) prog_74_method_9_code (1 : Nat) (Option.some (Jvm.ClassFile.FieldType.object "java/lang/Integer")), Jvm.Cond.code ({ cls := "com/example/sentencia/sentencia/StatementAttributesWithFetchSizePinLaw", name := "sameInt", desc := "(Ljava/lang/Integer;Ljava/lang/Integer;)Z" } : Jvm.MethodName) method_4_code (2 : Nat) (Option.some Jvm.ClassFile.FieldType.boolean), Jvm.Cond.code ({ cls := "com/example/sentencia/sentencia/StatementAttributes", name := "flushCache", desc := "()Z" } : Jvm.MethodName) prog_74_method_10_code (1 : Nat) (Option.some Jvm.ClassFile.FieldType.boolean), Jvm.Cond.code ({ cls := "java/lang/Integer", name := "<init>", desc := "(I)V" } : Jvm.MethodName) jdk_33_method_23_code (2 : Nat) (Option.none : Option Jvm.ClassFile.FieldType), Jvm.Cond.code ({ cls := "java/lang/Number", name := "<init>", desc := "()V" } : Jvm.MethodName) jdk_18_method_1_code (1 : Nat) (Option.none : Option Jvm.ClassFile.FieldType)]
set_option maxRecDepth 65536 in
theorem codes_eq : words1.filter isCode = codes1 := rfl
theorem w_codes : ∀ c ∈ words1.filter isCode, c.before args0 about1 = true := by
  rw [codes_eq]
  intro c hc
  simp only [codes1, List.mem_cons, List.not_mem_nil, or_false] at hc
  rcases hc with rfl | rfl | rfl | rfl | rfl | rfl | rfl | rfl | rfl | rfl | rfl | rfl | rfl | rfl | rfl | rfl | rfl | rfl
  · exact w_c0
  · exact w_c1
  · exact w_c2
  · exact w_c3
  · exact w_c4
  · exact w_c5
  · exact w_c6
  · exact w_c7
  · exact w_c8
  · exact w_c9
  · exact w_c10
  · exact w_c11
  · exact w_c12
  · exact w_c13
  · exact w_c14
  · exact w_c15
  · exact w_c16
  · exact w_c17
set_option maxRecDepth 65536 in
theorem w_t1 : (words1.take 24).all (fun c => isCode c || c.before args0 about1) = true := by decide +kernel
set_option maxRecDepth 65536 in
theorem w_t2 : ((words1.drop 24).take 24).all (fun c => isCode c || c.before args0 about1) = true := by decide +kernel
set_option maxRecDepth 65536 in
theorem w_t3 : (((words1.drop 24).drop 24).take 24).all (fun c => isCode c || c.before args0 about1) = true := by decide +kernel
set_option maxRecDepth 65536 in
theorem w_t4 : ((((words1.drop 24).drop 24).drop 24).take 24).all (fun c => isCode c || c.before args0 about1) = true := by decide +kernel
set_option maxRecDepth 65536 in
theorem w_t5 : (((((words1.drop 24).drop 24).drop 24).drop 24).take 24).all (fun c => isCode c || c.before args0 about1) = true := by decide +kernel
set_option maxRecDepth 65536 in
theorem w_t6 : (((((words1.drop 24).drop 24).drop 24).drop 24).drop 24).all (fun c => isCode c || c.before args0 about1) = true := by decide +kernel
theorem w_tables : (allAtoms (Jvm.Cond.code x code maxLocals ret :: tables_1)).before args0 about1 = true := by
  rw [allAtoms_all]
  show words1.all (fun c => c.before args0 about1) = true
  refine all_split ?_ w_codes
  rw [← List.take_append_drop 24 words1, List.all_append, w_t1, ← List.take_append_drop 24 (words1.drop 24), List.all_append, w_t2, ← List.take_append_drop 24 ((words1.drop 24).drop 24), List.all_append, w_t3, ← List.take_append_drop 24 (((words1.drop 24).drop 24).drop 24), List.all_append, w_t4, ← List.take_append_drop 24 ((((words1.drop 24).drop 24).drop 24).drop 24), List.all_append, w_t5, w_t6]
  rfl
set_option maxRecDepth 65536 in
theorem w_rest : rest_1_c.before args0 about1 = true := by decide +kernel
set_option maxRecDepth 65536 in
theorem w_case : (Jvm.Cond.and given_1 narrow_1).before args0 about1 = true := by decide +kernel
theorem w_applies : (headSpec (Jvm.Cond.code x code maxLocals ret :: tables_1) room_1).applies x e0.platform about1 = true :=
  (Spec.applies_iff w_frames).mpr ⟨w_running, w_runnable, w_alone, w_named, w_hears, w_ripe, w_room, w_tables⟩
theorem atStart : AtStart classFile x code maxLocals ret World_1 tables_1 room_1 Calls_1 rest_1 Pre_1 launch0 p0 e0 about1 theMethod args0 below0 :=
  ⟨lists_1, trivial, launch0.admits_env _ _ _, launch0.least_env, fairChoices_fair.cas, fairChoices_fair.clock, w_frames, w_args, w_heap, w_applies, trivial, w_rest, w_case⟩
end start1
theorem witness_1 : WitnessClaimed_1 := ⟨start1.p0, start1.e0, start1.about1, start1.theMethod, start1.args0, start1.below0, start1.atStart⟩
end Jvm.Pilot.@@N@@
