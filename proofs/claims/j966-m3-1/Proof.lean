import JvmDerived
import JvmDerived.Pilot.@@N@@Statement
import JvmDerived.Pilot.@@N@@Code
set_option linter.unusedVariables false
set_option linter.unusedSimpArgs false
namespace Jvm.RoadKit
open Sem ClassFile Op Lib Jvm.Stand Jvm.Free Jvm.LawKit
section New
variable {p : Program} {l : Launch} {e : Env} {R : Room} {s : State} {m : MethodId} {args : Array Value} {below : List Frame} {meth : Method} {c : Code} {T : State} {locs : List Loc} {cells slots : Nat}
theorem retI (X : Stand p l e R s m args below meth c T locs cells slots) (hx : p.tables.exec = Jvm.exec) {pc : Nat} {Ls : Array Slot} {z : Int32} {rest : List Value} (hret : meth.sig.returnType = some .int) (hd : decode c.code pc = .ok (.ireturn, 1)) {fs : List Frame}
    (hl : ∀ (f : JFrame) (acts : List Action), f.method = m → f.locked = none → f.entered = [] → (doReturn e (T.setTop f) acts (some (.int z))).1 = T.setFrames fs) : Steps p.tables e below (T.setTop (mkF m pc Ls (.int z :: rest))) (T.setFrames fs) := by
  have hm' : T.vm.method? m = some meth := X.method'
  have hn : narrow .int (.int z) = .int z := rfl
  show Steps p.tables e below (T.setTop { method := m, pc := pc, locals := Ls, stack := _ :: rest, locked := none }) _
  jvm_step X.here [X.here.top, hx, hd, hm', hret, hn]
  first | (intro acts; rw [hl _ acts rfl rfl rfl]) | rw [hl _ _ rfl rfl rfl]
  exact Steps.refl _
end New
end Jvm.RoadKit
namespace Jvm.Pilot.@@N@@
open Jvm Jvm.ClassFile Sem Op Lib Jvm.Free Jvm.Stand Jvm.LawKit Jvm.RoadKit Bundle
theorem ow {a0 : Array Value} {Z : State} (hw : ∀ d ∈ tables_1, d.before a0 Z = true) (i : Nat) {d : Jvm.Cond} (q : tables_1[i]? = some d) : d.before a0 Z = true := hw _ (List.mem_of_getElem? q)
theorem own_acEt {x y : Value} (h : x = y) : Jvm.Free.XT.acmp .eq x y = true := by simp [Jvm.Free.XT.acmp, h]
theorem own_acEf {x y : Value} (h : ¬ x = y) : Jvm.Free.XT.acmp .eq x y = false := by simp [Jvm.Free.XT.acmp, h]
theorem own_acNt {x y : Value} (h : ¬ x = y) : Jvm.Free.XT.acmp .ne x y = true := by simp [Jvm.Free.XT.acmp, h]
theorem own_acNf {x y : Value} (h : x = y) : Jvm.Free.XT.acmp .ne x y = false := by simp [Jvm.Free.XT.acmp, h]
theorem own_rem (x y : Int32) : x - (x / y) * y = x % y := by
  apply Int32.toInt_inj.mp
  have h1 := Int32.le_toInt (x % y)
  have h2 := Int32.toInt_lt (x % y)
  have e1 : (x - (x / y) * y).toInt = (x.toInt - (x / y).toInt * y.toInt).bmod (2 ^ 32) := by rw [Int32.toInt_sub, Int32.toInt_mul, Int.sub_bmod_bmod]
  rw [e1, Int32.toInt_div]
  have e2 : (x.toInt - (x.toInt.tdiv y.toInt).bmod (2 ^ 32) * y.toInt).bmod (2 ^ 32) = (x.toInt.tmod y.toInt).bmod (2 ^ 32) := by
    rw [← Int.sub_bmod_bmod, Int.bmod_mul_bmod, Int.sub_bmod_bmod, Int.tmod_def, Int.mul_comm]
  rw [e2, ← Int32.toInt_mod]
  exact Int.bmod_eq_of_le_mul_two (by omega) (by omega)
theorem own_cat {x : Value} (h : x.isRef = true) : x.category = 1 := by rcases ref_cases h with rfl | ⟨a, rfl⟩ <;> rfl
theorem own_nar {x : Value} {C : String} (h : x.isRef = true) : narrow (.object C) x = x := by rcases ref_cases h with rfl | ⟨a, rfl⟩ <;> rfl
theorem own_fit {x : Value} {C : String} (h : x.isRef = true) : fits (.object C) x = true := by rcases ref_cases h with rfl | ⟨a, rfl⟩ <;> rfl
theorem own_pure {Z : State} {h : Heap} {P : Option Value → Prop} : ∀ (v : Option Value) (h' : Heap) (L : List Loc), (Fr Z.heap.size L ∧ Ext Z.heap h' ∧ P v ∧ h = h') → Fr Z.heap.size L ∧ Keep h h' [] := fun v h' L q => ⟨q.1, q.2.2.2 ▸ Keep.refl _ _⟩
section OwnLayer
variable {p : Program} {l : Launch} {e : Env} {R : Room} {s : State} {m : MethodId} {args : Array Value} {below : List Frame} {meth : Method} {c : Code} {Z : State} {EL : List (String × Nat)} {a0 : Array Value} {T : State} {h : Heap} {k n : Nat} {sf : List Addr} {w : Bool}
/-- the tables since the start: wide (w): literals may have been interned; narrow: the Stand's own start -/
def own_rel : Bool → State → Vm → Nat → Prop
  | true, s, v0, k => s.Since v0 k
  | false, s, v0, _ => v0 = s.vm
def own_end : Bool → State → Outcome → State → List Loc → Nat → Nat → Prop
  | true, s, o, t, L, k, n => ReturnedEndW s o t L k n
  | false, s, o, t, L, k, n => FrameEnd s o t L k n
theorem own_alike {vm : Vm} {k0 : Nat} (r : own_rel w s vm k0) : s.vm.Alike vm := by
  cases w
  · cases r; exact Vm.Alike.refl _
  · exact r.1.alike
theorem own_found {vm : Vm} {k0 : Nat} {own : String} {c0 : ClassId} (r : own_rel w s vm k0) (q : s.vm.findClass own = some c0) : (s.setVm vm).vm.findClass own = some c0 := by
  show vm.findClass own = _
  rw [(own_alike r).findClass]; exact q
/-- where a walk stands: the Stand over the start with the tables at hand, the heap, nothing old written, the constants held, sf: cells that no constant stands for -/
def Wk (p : Program) (l : Launch) (e : Env) (R : Room) (s : State) (m : MethodId) (args : Array Value) (below : List Frame) (meth : Method) (c : Code) (Z : State) (EL : List (String × Nat)) (a0 : Array Value) (w : Bool) (T : State) (h : Heap) (k n : Nat) (sf : List Addr) : Prop :=
  EW Z a0 EL ∧ ∃ (vm0 : Vm) (locs : List Loc) (k0 : Nat), Stand p l e R (s.setVm vm0) m args below meth c T locs k n ∧ T.heap = h ∧ own_rel w s vm0 k0 ∧ k0 ≤ h.size ∧ Z.Warmed39 vm0 ∧ Fr Z.heap.size locs ∧ Ext Z.heap h ∧ CHr Z EL s.vm s.heap vm0 h ∧ ∀ x ∈ sf, x < h.size ∧ Safe Z EL vm0 h x
theorem Wk.here (H : Wk p l e R s m args below meth c Z EL a0 w T h k n sf) : At T m c below := by obtain ⟨-, _, _, _, X, -⟩ := H; exact X.here
theorem Wk.old (H : Wk p l e R s m args below meth c Z EL a0 w T h k n sf) : Ext Z.heap h := by obtain ⟨-, _, _, _, -, -, -, -, -, -, O, -⟩ := H; exact O
theorem Wk.more (H : Wk p l e R s m args below meth c Z EL a0 w T h k n sf) {k' n' : Nat} (hk : k ≤ k') (hn : n ≤ n') : Wk p l e R s m args below meth c Z EL a0 w T h k' n' sf := by
  obtain ⟨q, vm0, locs, k0, X, r⟩ := H; exact ⟨q, vm0, locs, k0, X.more hk hn, r⟩
theorem Wk.less (H : Wk p l e R s m args below meth c Z EL a0 w T h k n sf) {sf' : List Addr} (q : ∀ x ∈ sf', x ∈ sf) : Wk p l e R s m args below meth c Z EL a0 w T h k n sf' := by
  obtain ⟨q0, vm0, locs, k0, X, eT, r, hk, hZ, N, O, C, S⟩ := H; exact ⟨q0, vm0, locs, k0, X, eT, r, hk, hZ, N, O, C, fun x hx => S x (q x hx)⟩
def Go (p : Program) (e : Env) (below : List Frame) (Φ : State → Prop) (T : State) (g : JFrame) : Prop := ∃ U, Steps p.tables e below (T.setTop g) U ∧ Φ U
variable {Φ : State → Prop}
theorem Go.of {T' : State} {g g' : JFrame} (st : ∀ t, Steps p.tables e below (T'.setTop g') t → Steps p.tables e below (T.setTop g) t) (K : Go p e below Φ T' g') : Go p e below Φ T g := by
  obtain ⟨U, a, b⟩ := K; exact ⟨U, st U a, b⟩
theorem Go.by {T' : State} {g g' : JFrame} (st : Steps p.tables e below (T.setTop g) (T'.setTop g')) (K : Go p e below Φ T' g') : Go p e below Φ T g := by
  obtain ⟨U, a, b⟩ := K; exact ⟨U, st.trans a, b⟩
theorem Go.eq {g g' : JFrame} (q : g = g') (K : Go p e below Φ T g') : Go p e below Φ T g := q ▸ K
def own_fin (Z : State) (EL : List (String × Nat)) (w : Bool) (s : State) (below : List Frame) (Q : Option Value → Heap → Prop) (kc kn : Nat) (U : State) : Prop :=
  ∃ o, U.status = .running ∧ Ended U below o ∧ ∃ v L, o = .returned v ∧ (Fr Z.heap.size L ∧ Ext Z.heap U.heap ∧ Q v U.heap) ∧ CHr Z EL s.vm s.heap U.vm U.heap ∧ own_end w s o U L kc kn
/-- a method's contract -/
def Ct (l : Launch) (Z : State) (EL : List (String × Nat)) (a0 : Array Value) (w : Bool) (y : MethodName) (bytes : ByteArray) (maxL : Nat) (ret : Option FieldType) (ws : List Jvm.Cond) (rm : Room) (as' : Array Value) (h0 : Heap) (sf : List Addr) (Q : Option Value → Heap → Prop) : Prop :=
  MetFree l y (head1 (Jvm.Cond.code y bytes maxL ret :: ws) rm) (fun a U => a = as' ∧ Z.Warmed39 U.vm ∧ U.heap = h0 ∧ CHv Z EL U.vm h0 ∧ ∀ x ∈ sf, x < h0.size ∧ Safe Z EL U.vm h0 x) (fun _ _ _ _ _ => True)
    (fun _ U o U' => ∃ v L, o = .returned v ∧ (Fr Z.heap.size L ∧ Ext Z.heap U'.heap ∧ Q v U'.heap) ∧ CHr Z EL U.vm U.heap U'.vm U'.heap ∧ own_end w U o U' L rm.cells rm.slots)
theorem own_enter {y : MethodName} {bytes : ByteArray} {maxL : Nat} {ret : Option FieldType} {ws : List Jvm.Cond} {rm : Room} {as' : Array Value} {h0 : Heap} {Q : Option Value → Heap → Prop} (hp : plainFor y = true) (hE : EW Z a0 EL) (O : Ext Z.heap h0)
    (B : ∀ (p : Program) (e : Env) (s : State) (m : MethodId) (below : List Frame) (meth : Method) (c : Code) (s₁ : State), p.tables.exec = Jvm.exec → c.code = bytes → c.maxLocals = maxL → s.vm.findClass y.cls = some m.cls → meth.name = y.name → meth.sig.returnType = ret → meth.locks = false →
      Wk p l e rm s m as' below meth c Z EL a0 w s₁ h0 0 0 sf → Go p e below (own_fin Z EL w s below Q rm.cells rm.slots) s₁ (entryFrame m as' maxL)) :
    Ct l Z EL a0 w y bytes maxL ret ws rm as' h0 sf Q := by
  refine MetFree.of_bodySF hp hisR ?_
  intro p e s m args below meth c s₁ Bd hml0 hP hK
  obtain ⟨rfl, hZ, hh, hC, hS⟩ := hP
  have X0 : Stand p l e rm s m args below meth c s₁ [] 0 0 := Stand.of_body Bd
  have e0 : s₁.heap = h0 := by rw [← hh, Bd.state]; rfl
  obtain ⟨U, st, o, r1, r2, v, L, rfl, r3, r4, r5⟩ := B p e s m below meth c s₁ Bd.exec Bd.bytes hml0 (findClass_of_methodNamed Bd.named) (name_of_methodNamed Bd.named Bd.method).1 Bd.returns Bd.notSynchronized
    ⟨hE, s.vm, [], 0, X0, e0, by cases w; exact rfl; exact (State.WarmedH.refl s).since _, Nat.zero_le _, hZ, Fr.nil _, O, by rw [hh]; exact CHr.refl hC, hS⟩
  exact ⟨U, _, st, r1, r2, v, L, rfl, r3, r4, r5⟩
def own_sw (Z : State) (EL : List (String × Nat)) (sf : List Addr) (h : Heap) (a : Addr) : Prop := a ∈ sf ∨ (∃ C, Exa Z h a C ∧ C ≠ "java/lang/String" ∧ C ≠ "[B") ∨ (∃ cl ty, Arr Z h a cl ty ∧ ty ≠ .byte)
theorem own_sw.safe {vm0 : Vm} {a : Addr} (q : own_sw Z EL sf h a) (hal : Z.vm.Alike vm0) (S : ∀ x ∈ sf, x < h.size ∧ Safe Z EL vm0 h x) : Safe Z EL vm0 h a := by
  rcases q with q | ⟨C, E, h1, h2⟩ | ⟨cl, ty, A, ht⟩
  · exact (S a q).2
  · exact Safe.exa hal E h1 h2
  · exact Safe.arr hal A ht
theorem own_mem {a : Addr} (q : a ∈ sf) : own_sw Z EL sf h a := Or.inl q
theorem own_exa {a : Addr} {C : String} (E : Exa Z h a C) (h1 : C ≠ "java/lang/String" := by decide) (h2 : C ≠ "[B" := by decide) : own_sw Z EL sf h a := Or.inr (Or.inl ⟨C, E, h1, h2⟩)
theorem own_arr {a : Addr} {k0 : ClassId} {ty : FieldType} {z : Int32} {vs : List Value} {d : Value} (V : Arv Z h a k0 ty z vs d) (q : ty ≠ .byte := by decide) : own_sw Z EL sf h a := by
  obtain ⟨cl, A, -⟩ := V; exact Or.inr (Or.inr ⟨cl, ty, A, q⟩)
theorem own_wrote {vm0 : Vm} {locs : List Loc} {k0 : Nat} {T' : State} {h' : Heap} {a : Addr} {sl : Nat} {v : Value} (hE : EW Z a0 EL) (X' : Stand p l e R (s.setVm vm0) m args below meth c T' (locs ++ [⟨a, sl⟩]) k n) (e' : T'.heap = h') (W : Wr h h' a sl v) (r : own_rel w s vm0 k0) (hk : k0 ≤ h.size) (hZ : Z.Warmed39 vm0) (N : Fr Z.heap.size locs) (O : Ext Z.heap h) (C : CHr Z EL s.vm s.heap vm0 h) (S : ∀ x ∈ sf, x < h.size ∧ Safe Z EL vm0 h x) (ha : Z.heap.size ≤ a) (hs : own_sw Z EL sf h a) :
    Wk p l e R s m args below meth c Z EL a0 w T' h' k n sf := by
  have sa := hs.safe hZ.alike S
  have sz := W.size
  exact ⟨hE, vm0, _, k0, X', e', r, by rw [sz]; exact hk, hZ, Fr.snoc X' N ha, (Old.wr ⟨rfl, O⟩ W ha).2, C.trans (CHr.wr W sa C.1), fun x hx => ⟨by rw [sz]; exact (S x hx).1, Safe.wr W sa C.1 (S x hx).2⟩⟩
theorem own_irem (H : Wk p l e R s m args below meth c Z EL a0 w T h k n sf) (hx : p.tables.exec = Jvm.exec) {g : JFrame} (hg : g.method = m) {x y : Int32} {rest : List Value} (hd : decode c.code g.pc = .ok (.irem, 1)) (hs : g.stack = .int y :: .int x :: rest) (hy : y ≠ 0)
    (K : Go p e below Φ T { g with pc := g.pc + 1, stack := .int (x % y) :: rest }) : Go p e below Φ T g := by
  rw [← own_rem] at K
  exact Go.of (fun _ => XS.irem H.here hx hg hd hs hy) K
theorem own_getF (H : Wk p l e R s m args below meth c Z EL a0 w T h k n sf) (hx : p.tables.exec = Jvm.exec) {own R0 O nn d host : String} {index : Nat} (hown : s.vm.findClass own = some m.cls) (wd : (Cond.fieldLink own index R0 nn d).before a0 Z = true ∨ (Cond.fieldLinkNest own index R0 nn d host).before a0 Z = true) (via : Via Z R0 O nn d) {a : Addr} {v : Value} (F : Fld Z h a O nn d v) {g : JFrame} (hg : g.method = m) {rest : List Value} (hs : g.stack = .ref a :: rest) (hd : decode c.code g.pc = .ok (.getfield index, 3))
    (K : ∀ T', Wk p l e R s m args below meth c Z EL a0 w T' h k n sf → Go p e below Φ T' { g with pc := g.pc + 3, stack := v :: rest }) : Go p e below Φ T g := by
  obtain ⟨hE, vm0, locs, k0, X, eT, r, hk, hZ, N, O, C, S⟩ := H
  obtain ⟨T', X', e', st⟩ := getF X hx hZ (own_found r hown) wd via eT F hg hs hd
  exact Go.of st (K T' ⟨hE, vm0, locs, k0, X', e', r, hk, hZ, N, O, C, S⟩)
theorem own_getS (H : Wk p l e R s m args below meth c Z EL a0 w T h k n sf) (hx : p.tables.exec = Jvm.exec) {own R0 O nn d host : String} {index : Nat} (hown : s.vm.findClass own = some m.cls) (wd : (Cond.fieldLink own index R0 nn d).before a0 Z = true ∨ (Cond.fieldLinkNest own index R0 nn d host).before a0 Z = true) (via : Via Z R0 O nn d) {v : Value} (F : Sta Z Z.heap O nn d v) {g : JFrame} (hg : g.method = m) (hd : decode c.code g.pc = .ok (.getstatic index, 3))
    (K : ∀ T', Wk p l e R s m args below meth c Z EL a0 w T' h k n sf → Go p e below Φ T' { g with pc := g.pc + 3, stack := v :: g.stack }) : Go p e below Φ T g := by
  obtain ⟨hE, vm0, locs, k0, X, eT, r, hk, hZ, N, O, C, S⟩ := H
  obtain ⟨T', X', e', st⟩ := getS2 X hx hZ (own_found r hown) wd via eT (F.ext O) hg hd
  exact Go.of st (K T' ⟨hE, vm0, locs, k0, X', e', r, hk, hZ, N, O, C, S⟩)
theorem own_putF (H : Wk p l e R s m args below meth c Z EL a0 w T h k n sf) (hx : p.tables.exec = Jvm.exec) {own R0 O nn d host C : String} {index kk : Nat} {ty : FieldType} (hown : s.vm.findClass own = some m.cls) (wd : (Cond.fieldLink own index R0 nn d).before a0 Z = true ∨ (Cond.fieldLinkNest own index R0 nn d host).before a0 Z = true) (via : Via Z R0 O nn d)
    {a : Addr} {v old : Value} (F : Fld Z h a O nn d old) (E : Exa Z h a C) (L : (Cond.lays C O nn d).before a0 Z = true ∨ ((Cond.laysFinal C O nn d).before a0 Z = true ∧ own = O ∧ meth.name = "<init>")) (wi : (Cond.instantiable C kk).before a0 Z = true)
    (hty : parseFieldDescriptor d = some ty) (hn : narrow ty v = v) (hf : fits ty v = true) (ha : Z.heap.size ≤ a) (hsw : own_sw Z EL sf h a) {g : JFrame} (hg : g.method = m) {rest : List Value} (hs : g.stack = v :: .ref a :: rest) (hd : decode c.code g.pc = .ok (.putfield index, 3))
    (K : ∀ T' h', Wk p l e R s m args below meth c Z EL a0 w T' h' k n sf → Wr h h' a (Jvm.RoadKit.slotOf Z O nn d) v → Go p e below Φ T' { g with pc := g.pc + 3, stack := rest }) : Go p e below Φ T g := by
  obtain ⟨hE, vm0, locs, k0, X, eT, r, hk, hZ, N, Od, C, S⟩ := H
  obtain ⟨T', h', X', e', W, st⟩ := putF X hx hZ (own_found r hown) wd via eT F E L wi hty hn hf hg hs hd
  exact Go.of st (K T' h' (own_wrote hE X' e' W r hk hZ N Od C S ha hsw) W)
theorem own_putFN (H : Wk p l e R s m args below meth c Z EL a0 w T h k n sf) (hx : p.tables.exec = Jvm.exec) {own R0 O nn d C : String} {index kk : Nat} {ty : FieldType} (hown : s.vm.findClass own = some m.cls) (wd : (Cond.fieldLink own index R0 nn d).before a0 Z = true) (via : Via Z R0 O nn d)
    {a : Addr} {v v' old : Value} (F : Fld Z h a O nn d old) (E : Exa Z h a C) (L : (Cond.lays C O nn d).before a0 Z = true ∨ ((Cond.laysFinal C O nn d).before a0 Z = true ∧ own = O ∧ meth.name = "<init>")) (wi : (Cond.instantiable C kk).before a0 Z = true)
    (hty : parseFieldDescriptor d = some ty) (hn : narrow ty v = v') (hf : fits ty v' = true) (ha : Z.heap.size ≤ a) (hsw : own_sw Z EL sf h a) {g : JFrame} (hg : g.method = m) {rest : List Value} (hs : g.stack = v :: .ref a :: rest) (hd : decode c.code g.pc = .ok (.putfield index, 3))
    (K : ∀ T' h', Wk p l e R s m args below meth c Z EL a0 w T' h' k n sf → Wr h h' a (Jvm.RoadKit.slotOf Z O nn d) v' → Go p e below Φ T' { g with pc := g.pc + 3, stack := rest }) : Go p e below Φ T g := by
  obtain ⟨hE, vm0, locs, k0, X, eT, r, hk, hZ, N, Od, C, S⟩ := H
  obtain ⟨T', h', X', e', W, st⟩ := putFN X hx hZ (own_found r hown) wd via eT F E L wi hty hn hf hg hs hd
  exact Go.of st (K T' h' (own_wrote hE X' e' W r hk hZ N Od C S ha hsw) W)
theorem own_grew {vm0 : Vm} {locs : List Loc} {k0 : Nat} {T' : State} {h' : Heap} {k' n' : Nat} (hE : EW Z a0 EL) (X' : Stand p l e R (s.setVm vm0) m args below meth c T' locs k' n') (e' : T'.heap = h') (E : Ext h h') (hlt : h.size < h'.size) (r : own_rel w s vm0 k0) (hk : k0 ≤ h.size) (hZ : Z.Warmed39 vm0) (N : Fr Z.heap.size locs) (O : Ext Z.heap h) (C : CHr Z EL s.vm s.heap vm0 h) (S : ∀ x ∈ sf, x < h.size ∧ Safe Z EL vm0 h x) :
    Wk p l e R s m args below meth c Z EL a0 w T' h' k' n' (h.size :: sf) := by
  refine ⟨hE, vm0, _, k0, X', e', r, Nat.le_trans hk E.1, hZ, N, (Old.ext ⟨rfl, O⟩ E).2, C.trans (CHr.ext E C.1), fun x hx => ?_⟩
  rcases List.mem_cons.mp hx with rfl | hx
  · exact ⟨hlt, (Safe.new (Nat.le_refl _)).ext E C.1⟩
  · exact ⟨Nat.lt_of_lt_of_le (S x hx).1 E.1, (S x hx).2.ext E C.1⟩
theorem own_new (H : Wk p l e R s m args below meth c Z EL a0 w T h k n sf) (hx : p.tables.exec = Jvm.exec) {own C : String} {index nf : Nat} (hown : s.vm.findClass own = some m.cls) (w1 : (Cond.classLink own index C).before a0 Z = true) (wi : (Cond.instantiable C nf).before a0 Z = true) (wz : (Cond.initialized C).before a0 Z = true)
    {g : JFrame} (hg : g.method = m) (hd : decode c.code g.pc = .ok (.new index, 3)) (hc : k + 1 ≤ R.cells) (hl : n + nf ≤ R.slots)
    (K : ∀ T' h' b, b = h.size → Wk p l e R s m args below meth c Z EL a0 w T' h' (k + 1) (n + nf) (b :: sf) → Ext h h' → Exa Z h' b C → (∀ {O nm d : String} {ty : FieldType}, Laid Z a0 C O nm d → parseFieldDescriptor d = some ty → Fld Z h' b O nm d (defaultValue ty)) → Go p e below Φ T' { g with pc := g.pc + 3, stack := .ref b :: g.stack }) : Go p e below Φ T g := by
  obtain ⟨hE, vm0, locs, k0, X, eT, r, hk, hZ, N, O, C, S⟩ := H
  obtain ⟨T', h', X', e', E, A, D, -, st⟩ := newO X hx hZ (own_found r hown) w1 wi wz eT hg hd hc hl
  exact Go.of st (K T' h' _ rfl (own_grew hE X' e' E A.lt r hk hZ N O C S) E A D)
theorem own_newP (H : Wk p l e R s m args below meth c Z EL a0 w T h k n sf) (hx : p.tables.exec = Jvm.exec) {aty : ArrayType} (w1 : (Cond.arrayClass (newarray.typeOf aty)).before a0 Z = true) {g : JFrame} (hg : g.method = m) (hd : decode c.code g.pc = .ok (.newarray aty, 2)) {z : Int32} {rest : List Value} (hs : g.stack = .int z :: rest)
    (hz : ¬ z < 0) {cap : Nat} (hcap : z.toNatClampNeg ≤ cap) (hb : cap * 8 ≤ 536870912) (hc : k + 1 ≤ R.cells) (hl : n + cap ≤ R.slots)
    (K : ∀ T' h' b kA, b = h.size → Wk p l e R s m args below meth c Z EL a0 w T' h' (k + 1) (n + cap) (b :: sf) → Ext h h' → Arv Z h' b kA (newarray.typeOf aty) z [] (defaultValue (newarray.typeOf aty)) → Go p e below Φ T' { g with pc := g.pc + 2, stack := .ref b :: rest }) : Go p e below Φ T g := by
  obtain ⟨hE, vm0, locs, k0, X, eT, r, hk, hZ, N, O, C, S⟩ := H
  obtain ⟨T', h', kA, X', e', E, A, st⟩ := newP X hx hZ w1 eT hg hd hs hz hcap hb hc hl
  exact Go.of st (K T' h' _ kA rfl (own_grew hE X' e' E A.lt r hk hZ N O C S) E (Arv.new A hz))
theorem own_newR (H : Wk p l e R s m args below meth c Z EL a0 w T h k n sf) (hx : p.tables.exec = Jvm.exec) {own C : String} {index : Nat} (hown : s.vm.findClass own = some m.cls) (w1 : (Cond.classLink own index C).before a0 Z = true) (w2 : (Cond.arrayOver (.object C)).before a0 Z = true) {g : JFrame} (hg : g.method = m) (hd : decode c.code g.pc = .ok (.anewarray index, 3)) {z : Int32} {rest : List Value} (hs : g.stack = .int z :: rest)
    (hz : ¬ z < 0) {cap : Nat} (hcap : z.toNatClampNeg ≤ cap) (hb : cap * 8 ≤ 536870912) (hc : k + 1 ≤ R.cells) (hl : n + cap ≤ R.slots)
    (K : ∀ T' h' b kA, b = h.size → Wk p l e R s m args below meth c Z EL a0 w T' h' (k + 1) (n + cap) (b :: sf) → Ext h h' → Arv Z h' b kA (.object C) z [] .null → Ovr Z kA C → Go p e below Φ T' { g with pc := g.pc + 3, stack := .ref b :: rest }) : Go p e below Φ T g := by
  obtain ⟨hE, vm0, locs, k0, X, eT, r, hk, hZ, N, O, C, S⟩ := H
  obtain ⟨T', h', kA, X', e', E, A, Ov, st⟩ := newR X hx hZ (own_found r hown) w1 w2 eT hg hd hs hz hcap hb hc hl
  exact Go.of st (K T' h' _ kA rfl (own_grew hE X' e' E A.lt r hk hZ N O C S) E (Arv.new A hz) Ov)
theorem own_initO (H : Wk p l e R s m args below meth c Z EL a0 w T h k n sf) (hx : p.tables.exec = Jvm.exec) {own : String} {idx : Nat} (hown : s.vm.findClass own = some m.cls) (w1 : (Cond.methodLink own idx Lib.objectInit).before a0 Z = true) (w2 : (Cond.instanceMethod Lib.objectInit).before a0 Z = true)
    (w3 : (Cond.code Lib.objectInit ⟨#[0xb1]⟩ 1 none).before a0 Z = true) {g : JFrame} (hg : g.method = m) (hsize : g.locals.size = c.maxLocals) {a : Addr} {rest : List Value} (hs : g.stack = .ref a :: rest) (hd : decode c.code g.pc = .ok (.invokespecial idx, 3))
    (hf : 1 ≤ R.frames) {W : Nat} (hW : 2 * g.monitorRoom + (rest.map fun v => v.category).sum ≤ W) (hl : W + 12 ≤ R.locals)
    (K : ∀ T', Wk p l e R s m args below meth c Z EL a0 w T' h k n sf → Go p e below Φ T' { g with pc := g.pc + 3, stack := rest }) : Go p e below Φ T g := by
  obtain ⟨hE, vm0, locs, k0, X, eT, r, hk, hZ, N, O, C, S⟩ := H
  obtain ⟨T', X', e', st⟩ := initO X hx hZ (own_found r hown) w1 w2 w3 eT hg hsize hs hd hf hW hl
  exact Go.of st (K T' ⟨hE, vm0, locs, k0, X', e', r, hk, hZ, N, O, C, S⟩)
theorem own_ldcI (H : Wk p l e R s m args below meth c Z EL a0 w T h k n sf) (hx : p.tables.exec = Jvm.exec) {own : String} {index : Nat} {v : Int32} (hown : s.vm.findClass own = some m.cls) (wc : (Cond.constant own index v).before a0 Z = true) {g : JFrame} (hg : g.method = m) (hd : decode c.code g.pc = .ok (.ldc index, 2))
    (K : Go p e below Φ T { g with pc := g.pc + 2, stack := .int v :: g.stack }) : Go p e below Φ T g := by
  obtain ⟨hE, vm0, locs, k0, X, eT, r, hk, hZ, N, O, C, S⟩ := H
  exact Go.of (X.ldcInt hx (own_found r hown) (mvT hZ wc) hg hd) K
theorem own_len (H : Wk p l e R s m args below meth c Z EL a0 w T h k n sf) (hx : p.tables.exec = Jvm.exec) {a : Addr} {kA : ClassId} {ty : FieldType} {z : Int32} {vs : List Value} {d : Value} (V : Arv Z h a kA ty z vs d) {g : JFrame} (hg : g.method = m) {rest : List Value} (hs : g.stack = .ref a :: rest) (hd : decode c.code g.pc = .ok (.arraylength, 1))
    (K : Go p e below Φ T { g with pc := g.pc + 1, stack := .int z :: rest }) : Go p e below Φ T g := by
  obtain ⟨hE, vm0, locs, k0, X, eT, r, hk, hZ, N, O, C, S⟩ := H
  obtain ⟨cl, A, -, q, nz, -, -⟩ := V
  refine Go.of (fun t ht => X.arraylength hx (by rw [eT]; exact A.1) (State.isArrayOf_alike hZ.alike A.2.1) hg hs hd t ?_) K
  rw [len_of q nz]; exact ht
theorem own_ld {op : Instr} {ty : FieldType} (law : ∀ {s T : State} {locs : List Loc} {a : Addr} {cell : Cell} {j : Int32} {v : Value} {k n : Nat} (X : Stand p l e R s m args below meth c T locs k n) (hcell : T.heap[a]? = some cell) (harr : s.isArrayOf cell ty) (hknown : cell.vm ≠ .unknown) (hin : ¬ (j < 0 ∨ cell.slots.size ≤ j.toNatClampNeg)) (hv : cell.slots[j.toNatClampNeg]? = some v) {g : JFrame} (hg : g.method = m) {rest : List Value} (hs : g.stack = .int j :: .ref a :: rest) (hd : decode c.code g.pc = .ok (op, 1)) (target : State), Steps p.tables e below (T.setTop { g with pc := g.pc + 1, stack := v :: rest }) target → Steps p.tables e below (T.setTop g) target)
    (H : Wk p l e R s m args below meth c Z EL a0 w T h k n sf) {a : Addr} {kA : ClassId} {z j : Int32} {vs : List Value} {d v : Value} (V : Arv Z h a kA ty z vs d) (hj : ¬ j < 0 ∧ j < z) (hv : vs.getD j.toNatClampNeg d = v) {g : JFrame} (hg : g.method = m) {rest : List Value} (hs : g.stack = .int j :: .ref a :: rest) (hd : decode c.code g.pc = .ok (op, 1))
    (K : Go p e below Φ T { g with pc := g.pc + 1, stack := v :: rest }) : Go p e below Φ T g := by
  obtain ⟨hE, vm0, locs, k0, X, eT, r, hk, hZ, N, O, C, S⟩ := H
  obtain ⟨cl, A, -, q, nz, Hs, -⟩ := V
  exact Go.of (law X (by rw [eT]; exact A.1) (State.isArrayOf_alike hZ.alike A.2.1) A.2.2 (inb_of q hj) (Hs.at (inb_of q hj) hv) hg hs hd) K
theorem own_caload (H : Wk p l e R s m args below meth c Z EL a0 w T h k n sf) (hx : p.tables.exec = Jvm.exec) {a : Addr} {kA : ClassId} {z j : Int32} {vs : List Value} {d v : Value} (V : Arv Z h a kA .char z vs d) (hj : ¬ j < 0 ∧ j < z) (hv : vs.getD j.toNatClampNeg d = v) {g : JFrame} (hg : g.method = m) {rest : List Value} (hs : g.stack = .int j :: .ref a :: rest) (hd : decode c.code g.pc = .ok (.caload, 1))
    (K : Go p e below Φ T { g with pc := g.pc + 1, stack := v :: rest }) : Go p e below Φ T g := own_ld (fun {_ _ _ _ _ _ _ _ _} X h1 h2 h3 h4 h5 {_} hg {_} hs hd t k => X.caload hx h1 h2 h3 h4 h5 hg hs hd t k) H V hj hv hg hs hd K
theorem own_baload (H : Wk p l e R s m args below meth c Z EL a0 w T h k n sf) (hx : p.tables.exec = Jvm.exec) {a : Addr} {kA : ClassId} {z j : Int32} {vs : List Value} {d v : Value} (V : Arv Z h a kA .byte z vs d) (hj : ¬ j < 0 ∧ j < z) (hv : vs.getD j.toNatClampNeg d = v) {g : JFrame} (hg : g.method = m) {rest : List Value} (hs : g.stack = .int j :: .ref a :: rest) (hd : decode c.code g.pc = .ok (.baload, 1))
    (K : Go p e below Φ T { g with pc := g.pc + 1, stack := v :: rest }) : Go p e below Φ T g := own_ld (fun {_ _ _ _ _ _ _ _ _} X h1 h2 h3 h4 h5 {_} hg {_} hs hd t k => X.baloadBytes hx h1 h2 h3 h4 h5 hg hs hd t k) H V hj hv hg hs hd K
theorem own_aaload (H : Wk p l e R s m args below meth c Z EL a0 w T h k n sf) (hx : p.tables.exec = Jvm.exec) {a : Addr} {kA : ClassId} {ty : FieldType} {z j : Int32} {vs : List Value} {d v : Value} (V : Arv Z h a kA ty z vs d) (hty : ty.isReference = true) (hj : ¬ j < 0 ∧ j < z) (hv : vs.getD j.toNatClampNeg d = v) {g : JFrame} (hg : g.method = m) {rest : List Value} (hs : g.stack = .int j :: .ref a :: rest) (hd : decode c.code g.pc = .ok (.aaload, 1))
    (K : Go p e below Φ T { g with pc := g.pc + 1, stack := v :: rest }) : Go p e below Φ T g := own_ld (fun {_ _ _ _ _ _ _ _ _} X h1 h2 h3 h4 h5 {_} hg {_} hs hd t k => X.aaload hx h1 h2 hty h3 h4 h5 hg hs hd t k) H V hj hv hg hs hd K
theorem own_castore (H : Wk p l e R s m args below meth c Z EL a0 w T h k n sf) (hx : p.tables.exec = Jvm.exec) {a : Addr} {kA : ClassId} {z j x : Int32} {vs : List Value} {d : Value} (V : Arv Z h a kA .char z vs d) (hj : ¬ j < 0 ∧ j < z) (i : Nat) (hi : j.toNatClampNeg = i) (hl : i < vs.length) (ha : Z.heap.size ≤ a) {g : JFrame} (hg : g.method = m) {rest : List Value} (hs : g.stack = .int x :: .int j :: .ref a :: rest) (hd : decode c.code g.pc = .ok (.castore, 1))
    (K : ∀ T' h', Wk p l e R s m args below meth c Z EL a0 w T' h' k n sf → Wr h h' a j.toNatClampNeg (.int (nar .char x)) → Arv Z h' a kA .char z (vs.set i (.int (nar .char x))) d → Go p e below Φ T' { g with pc := g.pc + 1, stack := rest }) : Go p e below Φ T g := by
  have hsw : own_sw Z EL sf h a := own_arr V (by simp)
  obtain ⟨hE, vm0, locs, k0, X, eT, r, hk, hZ, N, O, C, S⟩ := H
  obtain ⟨cl, A, q1, q, nz, Hs, G⟩ := V
  obtain ⟨T', h', X', e', W, st⟩ := stC X hx hZ eT A (inb_of q hj) hg hs hd
  exact Go.of st (K T' h' (own_wrote hE X' e' W r hk hZ N O C S ha hsw) W (Arv.set A q1 q nz Hs G (fits_nar_char _) W i hi hl))
theorem own_bastore (H : Wk p l e R s m args below meth c Z EL a0 w T h k n sf) (hx : p.tables.exec = Jvm.exec) {a : Addr} {kA : ClassId} {z j x : Int32} {vs : List Value} {d : Value} (V : Arv Z h a kA .byte z vs d) (hj : ¬ j < 0 ∧ j < z) (i : Nat) (hi : j.toNatClampNeg = i) (hl : i < vs.length) (ha : Z.heap.size ≤ a) (hsw : own_sw Z EL sf h a) {g : JFrame} (hg : g.method = m) {rest : List Value} (hs : g.stack = .int x :: .int j :: .ref a :: rest) (hd : decode c.code g.pc = .ok (.bastore, 1))
    (K : ∀ T' h', Wk p l e R s m args below meth c Z EL a0 w T' h' k n sf → Wr h h' a j.toNatClampNeg (.int (nar .byte x)) → Arv Z h' a kA .byte z (vs.set i (.int (nar .byte x))) d → Go p e below Φ T' { g with pc := g.pc + 1, stack := rest }) : Go p e below Φ T g := by
  obtain ⟨hE, vm0, locs, k0, X, eT, r, hk, hZ, N, O, C, S⟩ := H
  obtain ⟨cl, A, q1, q, nz, Hs, G⟩ := V
  obtain ⟨T', h', X', e', W, st⟩ := stB X hx hZ eT A (inb_of q hj) hg hs hd
  exact Go.of st (K T' h' (own_wrote hE X' e' W r hk hZ N O C S ha hsw) W (Arv.set A q1 q nz Hs G (fits_nar_byte _) W i hi hl))
theorem own_aastore (H : Wk p l e R s m args below meth c Z EL a0 w T h k n sf) (hx : p.tables.exec = Jvm.exec) {a : Addr} {kA : ClassId} {C : String} {z j : Int32} {v : Value} {vs : List Value} {d : Value} (V : Arv Z h a kA (.object C) z vs d) (hj : ¬ j < 0 ∧ j < z) (i : Nat) (hi : j.toNatClampNeg = i) (hl : i < vs.length) (F : Sto Z h a v) (hf : v.isRef = true) (ha : Z.heap.size ≤ a) {g : JFrame} (hg : g.method = m) {rest : List Value} (hs : g.stack = v :: .int j :: .ref a :: rest) (hd : decode c.code g.pc = .ok (.aastore, 1))
    (K : ∀ T' h', Wk p l e R s m args below meth c Z EL a0 w T' h' k n sf → Wr h h' a j.toNatClampNeg v → Arv Z h' a kA (.object C) z (vs.set i v) d → Go p e below Φ T' { g with pc := g.pc + 1, stack := rest }) : Go p e below Φ T g := by
  have hsw : own_sw Z EL sf h a := own_arr V (by simp)
  obtain ⟨hE, vm0, locs, k0, X, eT, r, hk, hZ, N, O, C, S⟩ := H
  obtain ⟨cl, A, q1, q, nz, Hs, G⟩ := V
  obtain ⟨T', h', X', e', W, st⟩ := stR X hx hZ eT A (inb_of q hj) rfl F hg hs hd
  exact Go.of st (K T' h' (own_wrote hE X' e' W r hk hZ N O C S ha hsw) W (Arv.set A q1 q nz Hs G (by rcases ref_cases hf with rfl | ⟨_, rfl⟩ <;> rfl) W i hi hl))
theorem own_cast (H : Wk p l e R s m args below meth c Z EL a0 w T h k n sf) (hx : p.tables.exec = Jvm.exec) {own K0 : String} {index : Nat} (hown : s.vm.findClass own = some m.cls) (wd : (Cond.classLink own index K0).before a0 Z = true) {a : Addr} (F : Ins Z h a K0 true) {g : JFrame} (hg : g.method = m) {rest : List Value} (hs : g.stack = .ref a :: rest) (hd : decode c.code g.pc = .ok (.checkcast index, 3))
    (K : ∀ T', Wk p l e R s m args below meth c Z EL a0 w T' h k n sf → Go p e below Φ T' { g with pc := g.pc + 3 }) : Go p e below Φ T g := by
  obtain ⟨hE, vm0, locs, k0, X, eT, r, hk, hZ, N, O, C, S⟩ := H
  obtain ⟨T', X', e', st⟩ := castY X hx hZ (own_found r hown) wd eT F hg hs hd
  exact Go.of st (K T' ⟨hE, vm0, locs, k0, X', e', r, hk, hZ, N, O, C, S⟩)
theorem own_inst (H : Wk p l e R s m args below meth c Z EL a0 w T h k n sf) (hx : p.tables.exec = Jvm.exec) {own K0 : String} {index : Nat} (hown : s.vm.findClass own = some m.cls) (wd : (Cond.classLink own index K0).before a0 Z = true) {a : Addr} (F : Ins Z h a K0 true) {g : JFrame} (hg : g.method = m) {rest : List Value} (hs : g.stack = .ref a :: rest) (hd : decode c.code g.pc = .ok (.instanceof index, 3))
    (K : ∀ T', Wk p l e R s m args below meth c Z EL a0 w T' h k n sf → Go p e below Φ T' { g with pc := g.pc + 3, stack := .int 1 :: rest }) : Go p e below Φ T g := by
  obtain ⟨hE, vm0, locs, k0, X, eT, r, hk, hZ, N, O, C, S⟩ := H
  obtain ⟨T', X', e', st⟩ := instY X hx hZ (own_found r hown) wd eT F hg hs hd
  exact Go.of st (K T' ⟨hE, vm0, locs, k0, X', e', r, hk, hZ, N, O, C, S⟩)
/-- behind a literal or a call that may intern -/
theorem own_past {vm0 : Vm} {k1 : Nat} {T' : State} {h' : Heap} {locs' : List Loc} {k' n' : Nat} (hE : EW Z a0 EL) (X' : Stand p l e R (s.setVm T'.vm) m args below meth c T' locs' k' n') (e' : T'.heap = h') (r : s.Since T'.vm k1) (hk : k1 ≤ h'.size) (hZ : Z.Warmed39 T'.vm) (N : Fr Z.heap.size locs') (O : Ext Z.heap h') (C : CHr Z EL s.vm s.heap vm0 h) (C' : CHr Z EL vm0 h T'.vm h') (S : ∀ x ∈ sf, x < h.size ∧ Safe Z EL vm0 h x) :
    Wk p l e R s m args below meth c Z EL a0 true T' h' k' n' sf :=
  ⟨hE, T'.vm, _, k1, X', e', r, hk, hZ, N, O, C.trans C', fun x hx => ⟨Nat.lt_of_lt_of_le (S x hx).1 C'.2.1, C'.safe (S x hx).1 (S x hx).2⟩⟩
theorem own_ldcS (H : Wk p l e R s m args below meth c Z EL a0 true T h k n sf) (hx : p.tables.exec = Jvm.exec) {own text : String} {index : Nat} (hown : s.vm.findClass own = some m.cls) (wd : (Cond.stringLink own index text).before a0 Z = true) (wS : ∀ a ∈ Bundle.stringAtoms, a.before a0 Z = true) (hmem : (own, index) ∈ EL)
    {vs : List Value} {z : Int32} (ht : (∀ c ∈ text.toList, c.toNat < 256) ∧ text.toList.map (fun c => Value.int (Jvm.Lit.byteI c.toNat.toUInt16)) = vs) (hz : ¬ z < 0) (hl : z.toNatClampNeg = vs.length)
    {g : JFrame} (hg : g.method = m) (hd : decode c.code g.pc = .ok (.ldc index, 2)) {nn : Nat} (hn : 4 * text.toList.length ≤ nn) (hbig : nn ≤ 536870912) (hc : k + 2 ≤ R.cells) (hl' : n + (nn + 4) ≤ R.slots)
    (K : ∀ T' h' a b kb, Wk p l e R s m args below meth c Z EL a0 true T' h' (k + 2) (n + (nn + 4)) sf → Ext h h' → Exa Z h' a "java/lang/String" → Fld Z h' a "java/lang/String" "coder" "B" (.int 0) → Fld Z h' a "java/lang/String" "value" "[B" (.ref b) → Arv Z h' b kb .byte z vs (.int 0) → (∀ x ∈ sf, x ≠ a ∧ x ≠ b) → Go p e below Φ T' { g with pc := g.pc + 2, stack := .ref a :: g.stack }) : Go p e below Φ T g := by
  obtain ⟨hE, vm0, locs, k0, X, eT, r, hk, hZ, N, O, C, S⟩ := H
  obtain ⟨a, T', h', k1, b, kb, X', e', E, r', hk', hZ', hf', E1, F1, F2, V, -, -, C', -, hne, st⟩ := ldcCH X hx hZ (own_found r hown) wd wS eT r hk hE hmem C.1 ht hz hl hg hd hn hbig hc hl'
  have H' : Wk p l e R s m args below meth c Z EL a0 true T' h' (k + 2) (n + (nn + 4)) sf := own_past hE X' e' r' hk' hZ' N (Old.ext ⟨rfl, O⟩ E).2 C C' S
  exact Go.of st (K T' h' a b kb H' E E1 F1 F2 V fun x hx => hne x (C'.safe (S x hx).1 (S x hx).2))
theorem own_ldcO (H : Wk p l e R s m args below meth c Z EL a0 true T h k n sf) (hx : p.tables.exec = Jvm.exec) {own text : String} {index : Nat} (hown : s.vm.findClass own = some m.cls) (wd : (Cond.stringLink own index text).before a0 Z = true) (wS : ∀ a ∈ Bundle.stringAtoms, a.before a0 Z = true)
    {g : JFrame} (hg : g.method = m) (hd : decode c.code g.pc = .ok (.ldc index, 2)) {nn : Nat} (hn : 4 * text.toList.length ≤ nn) (hbig : nn ≤ 536870912) (hc : k + 2 ≤ R.cells) (hl' : n + (nn + 4) ≤ R.slots)
    (K : ∀ T' h' a, Wk p l e R s m args below meth c Z EL a0 true T' h' (k + 2) (n + (nn + 4)) sf → Ext h h' → Go p e below Φ T' { g with pc := g.pc + 2, stack := .ref a :: g.stack }) : Go p e below Φ T g := by
  obtain ⟨hE, vm0, locs, k0, X, eT, r, hk, hZ, N, O, C, S⟩ := H
  obtain ⟨a, T', h', k1, X', e', E, r', hk', hZ', hf', C', -, st⟩ := ldcOH X hx hZ (own_found r hown) wd wS eT r hk hE C.1 hg hd hn hbig hc hl'
  exact Go.of st (K T' h' a (own_past hE X' e' r' hk' hZ' N (Old.ext ⟨rfl, O⟩ E).2 C C' S) E)
/-! returns -/
theorem own_leave (H : Wk p l e R s m args below meth c Z EL a0 w T h k n sf) {v : Option Value} {Q : Option Value → Heap → Prop} (hl : meth.locks = false) (hv : meth.sig.returnType = none → v = none) (q : Q v h) (hk : k ≤ R.cells) (hn : n ≤ R.slots) {g : JFrame}
    (st : ∀ {locs : List Loc} {s' : State} (X : Stand p l e R s' m args below meth c T locs k n) {fs : List Frame}, (∀ (f : JFrame) (acts : List Action), f.method = m → f.locked = none → f.entered = [] → (doReturn e (T.setTop f) acts v).1 = T.setFrames fs) → Steps p.tables e below (T.setTop g) (T.setFrames fs)) :
    Go p e below (own_fin Z EL w s below Q R.cells R.slots) T g := by
  obtain ⟨hE, vm0, locs, k0, X, eT, r, hk0, hZ, N, O, C, S⟩ := H
  have CU : CHr Z EL s.vm s.heap T.vm T.heap := by rw [eT]; exact C.trans (CHv.at X hZ hE C.1)
  cases w
  · have r : vm0 = s.vm := r
    subst r
    obtain ⟨fs, hr, hrun, hended, hW, hsame⟩ := X.leave hv hl
    exact ⟨_, st X hr, _, hrun, hended, v, locs, rfl, ⟨N, by show Ext Z.heap T.heap; rw [eT]; exact O, by show Q v T.heap; rw [eT]; exact q⟩, CU, ⟨⟨v, rfl⟩, hW, hsame.mono hk hn⟩⟩
  · obtain ⟨fs, hr, hrun, hended, hend⟩ := X.leaveW r (by rw [eT]; exact hk0) hv hl
    exact ⟨_, st X hr, _, hrun, hended, v, locs, rfl, ⟨N, by show Ext Z.heap T.heap; rw [eT]; exact O, by show Q v T.heap; rw [eT]; exact q⟩, CU, ⟨hend.1, hend.2.1, hend.2.2.1, hend.2.2.2.mono hk hn⟩⟩
theorem own_retI (H : Wk p l e R s m args below meth c Z EL a0 w T h k n sf) (hx : p.tables.exec = Jvm.exec) (hl : meth.locks = false) (hret : meth.sig.returnType = some .int) {pc : Nat} {Ls : Array Slot} {z : Int32} {rest : List Value} {Q : Option Value → Heap → Prop} (hd : decode c.code pc = .ok (.ireturn, 1)) (q : Q (some (.int z)) h) (hk : k ≤ R.cells) (hn : n ≤ R.slots) :
    Go p e below (own_fin Z EL w s below Q R.cells R.slots) T (mkF m pc Ls (.int z :: rest)) :=
  own_leave H hl (fun h => by rw [hret] at h; cases h) q hk hn fun {_ _} X {_} hr => retI X hx hret hd hr
theorem own_retN (H : Wk p l e R s m args below meth c Z EL a0 w T h k n sf) (hx : p.tables.exec = Jvm.exec) (hl : meth.locks = false) {t : FieldType} (hret : meth.sig.returnType = some t) (ht : t = .boolean ∨ t = .byte ∨ t = .char ∨ t = .short) {pc : Nat} {Ls : Array Slot} {z : Int32} {rest : List Value} {Q : Option Value → Heap → Prop} (hd : decode c.code pc = .ok (.ireturn, 1)) (q : Q (some (.int (nar t z))) h) (hk : k ≤ R.cells) (hn : n ≤ R.slots) :
    Go p e below (own_fin Z EL w s below Q R.cells R.slots) T (mkF m pc Ls (.int z :: rest)) :=
  own_leave H hl (fun h => by rw [hret] at h; cases h) q hk hn fun {_ _} X {_} hr => retN X hx hret ht hd hr
theorem own_ret (H : Wk p l e R s m args below meth c Z EL a0 w T h k n sf) (hx : p.tables.exec = Jvm.exec) (hl : meth.locks = false) (hret : meth.sig.returnType = none) {pc : Nat} {Ls : Array Slot} {Q : Option Value → Heap → Prop} (hd : decode c.code pc = .ok (.return_, 1)) (q : Q none h) (hk : k ≤ R.cells) (hn : n ≤ R.slots) :
    Go p e below (own_fin Z EL w s below Q R.cells R.slots) T (mkF m pc Ls []) :=
  own_leave H hl (fun _ => rfl) q hk hn fun {_ _} X {_} hr => X.returnOut hx hret hd hr
theorem own_retA_step {locs : List Loc} (X : Stand p l e R s m args below meth c T locs k n) (hx : p.tables.exec = Jvm.exec) {t : FieldType} (hret : meth.sig.returnType = some t) (ht : t.isReference = true) {pc : Nat} {Ls : Array Slot} {v : Value} (hv : v.isRef = true) {rest : List Value} (hd : decode c.code pc = .ok (.areturn, 1)) {fs : List Frame}
    (hr : ∀ (f : JFrame) (acts : List Action), f.method = m → f.locked = none → f.entered = [] → (doReturn e (T.setTop f) acts (some v)).1 = T.setFrames fs) : Steps p.tables e below (T.setTop (mkF m pc Ls (v :: rest))) (T.setFrames fs) := by
  have hm' : T.vm.method? m = some meth := X.method'
  show Steps p.tables e below (T.setTop { method := m, pc := pc, locals := Ls, stack := _ :: rest, locked := none }) _
  jvm_step X.here [X.here.top, hx, hd, hm', hret, hv, ht]
  first | (intro acts; rw [hr _ acts rfl rfl rfl]) | rw [hr _ _ rfl rfl rfl]
  exact Steps.refl _
theorem own_retA (H : Wk p l e R s m args below meth c Z EL a0 w T h k n sf) (hx : p.tables.exec = Jvm.exec) (hl : meth.locks = false) {t : FieldType} (hret : meth.sig.returnType = some t) (ht : t.isReference = true) {pc : Nat} {Ls : Array Slot} {v : Value} (hv : v.isRef = true) {rest : List Value} {Q : Option Value → Heap → Prop} (hd : decode c.code pc = .ok (.areturn, 1)) (q : Q (some v) h) (hk : k ≤ R.cells) (hn : n ≤ R.slots) :
    Go p e below (own_fin Z EL w s below Q R.cells R.slots) T (mkF m pc Ls (v :: rest)) :=
  own_leave H hl (fun h => by rw [hret] at h; cases h) q hk hn fun {_ _} X {_} hr => own_retA_step X hx hret ht hv hd hr
/-! calls that a law of the library pays (Back), or a narrow contract -/
theorem own_kept {vm0 : Vm} {locs L : List Loc} {k0 : Nat} {kc kn : Nat} {B : Pt} {ws : List Addr} (hE : EW Z a0 EL) (X' : Stand p l e R (s.setVm vm0) m args below meth c B.U B.locs B.cells B.slots) (r : own_rel w s vm0 k0) (hk : k0 ≤ h.size) (hZ : Z.Warmed39 vm0) (N : Fr Z.heap.size locs) (O : Ext Z.heap h) (C : CHr Z EL s.vm s.heap vm0 h) (S : ∀ x ∈ sf, x < h.size ∧ Safe Z EL vm0 h x)
    (hL : Fr Z.heap.size L) (Kp : Keep h B.U.heap ws) (hws : ∀ x ∈ ws, Z.heap.size ≤ x ∧ own_sw Z EL sf h x) (el : B.locs = locs ++ L) (ek : B.cells = k + kc) (en : B.slots = n + kn) : Wk p l e R s m args below meth c Z EL a0 w B.U B.U.heap (k + kc) (n + kn) sf := by
  have hs : ∀ x ∈ ws, Safe Z EL vm0 h x := fun x hx => (hws x hx).2.safe hZ.alike S
  refine ⟨hE, vm0, locs ++ L, k0, by rw [← el, ← ek, ← en]; exact X', rfl, r, Nat.le_trans hk Kp.1, hZ, Fr.app N hL, (Old.keep ⟨rfl, O⟩ Kp fun x hx => (hws x hx).1).2, C.trans (CHr.keep Kp hs C.1), fun x hx => ⟨Nat.lt_of_lt_of_le (S x hx).1 Kp.1, (S x hx).2.keep Kp hs C.1⟩⟩
theorem own_staticB (H : Wk p l e R s m args below meth c Z EL a0 w T h k n sf) (hx : p.tables.exec = Jvm.exec) {own : String} {index : Nat} {y : MethodName} {bytes : ByteArray} {maxL : Nat} {ret : Option FieldType} (hown : s.vm.findClass own = some m.cls) (w1 : (Cond.methodLink own index y).before a0 Z = true) (w2 : (Cond.static y).before a0 Z = true) (w3 : (Cond.initialized y.cls).before a0 Z = true) (w4 : (Cond.code y bytes maxL ret).before a0 Z = true)
    (hy : y.cls ≠ "java/lang/invoke/MethodHandle" ∧ y.cls ≠ "java/lang/invoke/VarHandle") {W kc kn : Nat} {as' : Array Value} (Q : Option Value → Heap → List Loc → Prop)
    (hB : ∀ vm0, Z.Warmed39 vm0 → CHv Z EL vm0 h → Back l R p e below (s.setVm vm0) args y 3 W (fun A a => a = as' ∧ A.U.heap = h ∧ A.cells + kc ≤ R.cells ∧ A.slots + kn ≤ R.slots) (fun A _ v B => ∃ L, Q v B.U.heap L ∧ B.locs = A.locs ++ L ∧ B.cells = A.cells + kc ∧ B.slots = A.slots + kn))
    {ws : List Addr} (hq : ∀ v h' L, Q v h' L → Fr Z.heap.size L ∧ Keep h h' ws) (hws : ∀ x ∈ ws, Z.heap.size ≤ x ∧ own_sw Z EL sf h x)
    {g : JFrame} (hg : g.method = m) (hsize : g.locals.size = c.maxLocals) {argsL rest : List Value} (has : argsL.toArray = as') (hlen : ∀ sig, parseMethodDescriptor y.desc = some sig → argsL.length = sig.parameters.length) (hstack : g.stack = argsL.reverse ++ rest) (hW : 2 * g.monitorRoom + (rest.map fun v => v.category).sum ≤ W) (hd : decode c.code g.pc = .ok (.invokestatic index, 3)) (hc : k + kc ≤ R.cells) (hn : n + kn ≤ R.slots)
    (K : ∀ T' h' v L, Wk p l e R s m args below meth c Z EL a0 w T' h' (k + kc) (n + kn) sf → Q v h' L → Go p e below Φ T' { g with pc := g.pc + 3, stack := v.toList ++ rest }) : Go p e below Φ T g := by
  obtain ⟨hE, vm0, locs, k0, X, eT, r, hk, hZ, N, O, C, S⟩ := H
  obtain ⟨v, vm1, B, hWm, X', ⟨L, hQ, el, ek, en⟩, st⟩ := Jvm.LawKit.callS X hx (own_found r hown) (mvT hZ w1) (mvT hZ w2) (mvT hZ w3) (mvT hZ w4) hy (hB vm0 hZ C.1) hg hsize hlen hstack hW hd fun _ _ => ⟨has, eT, hc, hn⟩
  obtain ⟨hL, Kp⟩ := hq _ _ _ hQ
  exact Go.of st (K B.U _ v L (own_kept hE X' r hk hZ N O C S hL Kp hws el ek en) hQ)
theorem own_specialB (H : Wk p l e R s m args below meth c Z EL a0 w T h k n sf) (hx : p.tables.exec = Jvm.exec) {own : String} {index : Nat} {y : MethodName} {bytes : ByteArray} {maxL : Nat} (hy1 : y.name = "<init>") (hown : s.vm.findClass own = some m.cls) (w1 : (Cond.methodLink own index y).before a0 Z = true) (w2 : (Cond.instanceMethod y).before a0 Z = true) (w4 : (Cond.code y bytes maxL none).before a0 Z = true)
    (hy : y.cls ≠ "java/lang/invoke/MethodHandle" ∧ y.cls ≠ "java/lang/invoke/VarHandle") {W kc kn : Nat} {as' : Array Value} (Q : Option Value → Heap → List Loc → Prop)
    (hB : ∀ vm0, Z.Warmed39 vm0 → CHv Z EL vm0 h → Back l R p e below (s.setVm vm0) args y 3 W (fun A a => a = as' ∧ A.U.heap = h ∧ A.cells + kc ≤ R.cells ∧ A.slots + kn ≤ R.slots) (fun A _ v B => ∃ L, Q v B.U.heap L ∧ B.locs = A.locs ++ L ∧ B.cells = A.cells + kc ∧ B.slots = A.slots + kn))
    {ws : List Addr} (hq : ∀ v h' L, Q v h' L → Fr Z.heap.size L ∧ Keep h h' ws) (hws : ∀ x ∈ ws, Z.heap.size ≤ x ∧ own_sw Z EL sf h x)
    {g : JFrame} (hg : g.method = m) (hsize : g.locals.size = c.maxLocals) {a : Addr} {argsL rest : List Value} (has : (.ref a :: argsL).toArray = as') (hlen : ∀ sig, parseMethodDescriptor y.desc = some sig → argsL.length = sig.parameters.length) (hstack : g.stack = argsL.reverse ++ .ref a :: rest) (hW : 2 * g.monitorRoom + (rest.map fun v => v.category).sum ≤ W) (hd : decode c.code g.pc = .ok (.invokespecial index, 3)) (hc : k + kc ≤ R.cells) (hn : n + kn ≤ R.slots)
    (K : ∀ T' h' v L, Wk p l e R s m args below meth c Z EL a0 w T' h' (k + kc) (n + kn) sf → Q v h' L → Go p e below Φ T' { g with pc := g.pc + 3, stack := v.toList ++ rest }) : Go p e below Φ T g := by
  obtain ⟨hE, vm0, locs, k0, X, eT, r, hk, hZ, N, O, C, S⟩ := H
  obtain ⟨v, vm1, B, hWm, X', ⟨L, hQ, el, ek, en⟩, st⟩ := X.specialBack hx hy1 (own_found r hown) (mvT hZ w1) (mvT hZ w2) (mvT hZ w4) hy (hB vm0 hZ C.1) hg hsize (Steps.refl _) hlen hstack hW hd fun _ _ => ⟨has, eT, hc, hn⟩
  obtain ⟨hL, Kp⟩ := hq _ _ _ hQ
  exact Go.by st (K B.U _ v L (own_kept hE X' r hk hZ N O C S hL Kp hws el ek en) hQ)
theorem own_virtualB (H : Wk p l e R s m args below meth c Z EL a0 w T h k n sf) (hx : p.tables.exec = Jvm.exec) {own C : String} {index : Nat} {y z : MethodName} (hown : s.vm.findClass own = some m.cls) (w1 : (Cond.methodLink own index y).before a0 Z = true) (w2 : (Cond.declares y).before a0 Z = true) (w3 : (Cond.selects C y z).before a0 Z = true) (hnf : y = z) (w4 : (Cond.instanceMethod z).before a0 Z = true)
    (hy : y.cls ≠ "java/lang/invoke/MethodHandle" ∧ y.cls ≠ "java/lang/invoke/VarHandle") {W kc kn : Nat} {as' : Array Value} (Q : Option Value → Heap → List Loc → Prop)
    (hB : ∀ vm0, Z.Warmed39 vm0 → CHv Z EL vm0 h → Back l R p e below (s.setVm vm0) args z 3 W (fun A a => a = as' ∧ A.U.heap = h ∧ A.cells + kc ≤ R.cells ∧ A.slots + kn ≤ R.slots) (fun A _ v B => ∃ L, Q v B.U.heap L ∧ B.locs = A.locs ++ L ∧ B.cells = A.cells + kc ∧ B.slots = A.slots + kn))
    {ws : List Addr} (hq : ∀ v h' L, Q v h' L → Fr Z.heap.size L ∧ Keep h h' ws) (hws : ∀ x ∈ ws, Z.heap.size ≤ x ∧ own_sw Z EL sf h x)
    {b : Addr} (E : Exa Z h b C) {g : JFrame} (hg : g.method = m) (hsize : g.locals.size = c.maxLocals) {argsL rest : List Value} (has : (.ref b :: argsL).toArray = as') (hlen : ∀ sig, parseMethodDescriptor y.desc = some sig → argsL.length = sig.parameters.length) (hstack : g.stack = argsL.reverse ++ .ref b :: rest) (hW : 2 * g.monitorRoom + (rest.map fun v => v.category).sum ≤ W) (hd : decode c.code g.pc = .ok (.invokevirtual index, 3)) (hc : k + kc ≤ R.cells) (hn : n + kn ≤ R.slots)
    (K : ∀ T' h' v L, Wk p l e R s m args below meth c Z EL a0 w T' h' (k + kc) (n + kn) sf → Q v h' L → Go p e below Φ T' { g with pc := g.pc + 3, stack := v.toList ++ rest }) : Go p e below Φ T g := by
  subst hnf
  obtain ⟨hE, vm0, locs, k0, X, eT, r, hk, hZ, N, O, C, S⟩ := H
  obtain ⟨cq, kq, qa, qb, qc⟩ := isOf (s := s.setVm vm0) hZ eT E
  obtain ⟨v, vm1, B, hWm, X', ⟨L, hQ, el, ek, en⟩, st⟩ := X.virtualBack hx (own_found r hown) (mvT hZ w1) (mvT hZ w2) (notFace_of_selects (args := #[]) (mvT hZ w3)) (mvT hZ w3) (mvT hZ w4) hy (hB vm0 hZ C.1) qa qc hg hsize (Steps.refl _) hlen hstack hW hd fun _ _ => ⟨has, eT, hc, hn⟩
  obtain ⟨hL, Kp⟩ := hq _ _ _ hQ
  exact Go.by st (K B.U _ v L (own_kept hE X' r hk hZ N O C S hL Kp hws el ek en) hQ)
/-- a narrow contract at a call -/
theorem own_backN {y : MethodName} {bytes : ByteArray} {maxL : Nat} {ret : Option FieldType} {rm : Room} {len W : Nat} {as' : Array Value} {vm0 : Vm} {Q : Option Value → Heap → Prop} (hM : Ct l Z [] a0 false y bytes maxL ret [] rm as' h [] Q)
    (wc : (Cond.code y bytes maxL ret).before a0 Z = true) (wz : (Cond.initialized y.cls).before a0 Z = true) (hf : rm.frames + 1 ≤ R.frames) (hl : W + (maxL + 11) + rm.locals ≤ R.locals) (hZ : Z.Warmed39 vm0) :
    Back l R p e below (s.setVm vm0) args y len W (fun A a => a = as' ∧ A.U.heap = h ∧ A.cells + rm.cells ≤ R.cells ∧ A.slots + rm.slots ≤ R.slots) (fun A _ v B => ∃ L, (Fr Z.heap.size L ∧ Ext Z.heap B.U.heap ∧ Q v B.U.heap) ∧ B.locs = A.locs ++ L ∧ B.cells = A.cells + rm.cells ∧ B.slots = A.slots + rm.slots) := by
  refine backOf (s := s.setVm vm0) (Q := fun v h' L => Fr Z.heap.size L ∧ Ext Z.heap h' ∧ Q v h') ?_ hZ wc wz hf hl
  intro p e ha hc hk s m args below hf happ hP hK
  obtain ⟨n, o, h1, h2, h3, v, L, rfl, r, -, q⟩ := hM p e ha hc hk s m args below hf happ ⟨hP.1, hP.2.1, hP.2.2, (fun _ hq => nomatch hq), (fun _ hq => nomatch hq)⟩ hK
  exact ⟨n, _, h1, h2, h3, v, L, rfl, r, q⟩
/-! calls of a callee that may intern -/
theorem own_backW {y : MethodName} {bytes : ByteArray} {maxL : Nat} {ret : Option FieldType} {rm : Room} {len W : Nat} {as' : Array Value} {sfc : List Addr} {vm0 : Vm} {Q : Option Value → Heap → Prop} (hM : Ct l Z EL a0 true y bytes maxL ret [] rm as' h sfc Q)
    (wc : (Cond.code y bytes maxL ret).before a0 Z = true) (wz : (Cond.initialized y.cls).before a0 Z = true) (hf : rm.frames + 1 ≤ R.frames) (hl : W + (maxL + 11) + rm.locals ≤ R.locals) (hZ : Z.Warmed39 vm0) (hE : EW Z a0 EL) (H : CHv Z EL vm0 h) (S : ∀ x ∈ sfc, x < h.size ∧ Safe Z EL vm0 h x) :
    BackS l R p e below (s.setVm vm0) args y len W (fun A a => a = as' ∧ A.U.heap = h ∧ A.cells + rm.cells ≤ R.cells ∧ A.slots + rm.slots ≤ R.slots)
      (fun A _ v B => ∃ L, (Fr Z.heap.size L ∧ Ext Z.heap B.U.heap ∧ Q v B.U.heap) ∧ B.locs = A.locs ++ L ∧ B.cells = A.cells + rm.cells ∧ B.slots = A.slots + rm.slots ∧ CHr Z EL vm0 h B.U.vm B.U.heap) :=
  BackS.of_freeW (bytes := bytes) (maxL := maxL) (ret := ret) (E := fun _ first o t L k n => k = rm.cells ∧ n = rm.slots ∧ (∃ v, o = .returned v ∧ Fr Z.heap.size L ∧ Ext Z.heap t.heap ∧ Q v t.heap) ∧ CHr Z EL first.vm first.heap t.vm t.heap) hM hf hl
    (fun m meth c A a Y hp => have hU : Z.Warmed39 A.U.vm := wtrans (s := s.setVm vm0) hZ Y.warmed
      ⟨by show (Cond.and _ .tt).before a A.U = true; rw [Cond.before_and, mv hU wc]; rfl, mv hU wc, mv hU wz, hp.2.2.1, hp.2.2.2⟩)
    (fun m meth c A a g mk Y hp => have q := CHv.at Y hZ hE H
      ⟨hp.1, wtrans (s := s.setVm vm0) hZ Y.warmed, hp.2.1, q.1, fun x hx => ⟨(S x hx).1, q.safe (S x hx).1 (S x hx).2⟩⟩) (fun _ _ _ _ _ _ _ _ _ => trivial)
    (fun _ _ _ _ ⟨v, L, h1, h2, h3, h4⟩ => ⟨L, _, _, h4, rfl, rfl, ⟨v, h1, h2⟩, h3⟩)
    (fun m meth c A a g mk v t L k n Y hp _ _ ⟨e1, e2, ⟨v', e3, e4⟩, e5⟩ => by
      cases e3; subst e1 e2
      refine ⟨L, e4, rfl, rfl, rfl, (CHv.at Y hZ hE H).trans ?_⟩
      rw [← hp.2.1]; exact e5)
theorem own_wide {vm0 : Vm} {locs L : List Loc} {k0 : Nat} {kc kn : Nat} {B : Pt} (hE : EW Z a0 EL) (X' : Stand p l e R (s.setVm B.U.vm) m args below meth c B.U B.locs B.cells B.slots) (r : s.Since vm0 k0) (hk : k0 ≤ h.size) (eT : T.heap = h) (h2 : (s.setVm vm0).Since B.U.vm B.U.heap.size) (gr : T.heap.size ≤ B.U.heap.size) (hZ : Z.Warmed39 vm0) (N : Fr Z.heap.size locs) (C : CHr Z EL s.vm s.heap vm0 h) (S : ∀ x ∈ sf, x < h.size ∧ Safe Z EL vm0 h x)
    (hL : Fr Z.heap.size L) (O : Ext Z.heap B.U.heap) (el : B.locs = locs ++ L) (ek : B.cells = k + kc) (en : B.slots = n + kn) (C' : CHr Z EL vm0 h B.U.vm B.U.heap) : Wk p l e R s m args below meth c Z EL a0 true B.U B.U.heap (k + kc) (n + kn) sf := by
  refine own_past hE (by rw [← ek, ← en]; exact X') rfl (r.trans h2 (Nat.le_trans hk (by rw [← eT]; exact gr))) (Nat.le_refl _) (State.Warmed39.trans (t := s.setVm vm0) hZ h2.1) (by rw [el]; exact Fr.app N hL) O C C' S
theorem own_staticW (H : Wk p l e R s m args below meth c Z EL a0 true T h k n sf) (hx : p.tables.exec = Jvm.exec) {own : String} {index : Nat} {y : MethodName} {bytes : ByteArray} {maxL : Nat} {ret : Option FieldType} (hown : s.vm.findClass own = some m.cls) (w1 : (Cond.methodLink own index y).before a0 Z = true) (w2 : (Cond.static y).before a0 Z = true) (w3 : (Cond.initialized y.cls).before a0 Z = true) (w4 : (Cond.code y bytes maxL ret).before a0 Z = true)
    (hy : y.cls ≠ "java/lang/invoke/MethodHandle" ∧ y.cls ≠ "java/lang/invoke/VarHandle") {W : Nat} {rm : Room} {as' : Array Value} {sfc : List Addr} {Q : Option Value → Heap → Prop} (hM : Ct l Z EL a0 true y bytes maxL ret [] rm as' h sfc Q) (hsf : ∀ x ∈ sfc, x ∈ sf) (hf : rm.frames + 1 ≤ R.frames) (hl : W + (maxL + 11) + rm.locals ≤ R.locals)
    {g : JFrame} (hg : g.method = m) (hsize : g.locals.size = c.maxLocals) {argsL rest : List Value} (has : argsL.toArray = as') (hlen : ∀ sig, parseMethodDescriptor y.desc = some sig → argsL.length = sig.parameters.length) (hstack : g.stack = argsL.reverse ++ rest) (hW : 2 * g.monitorRoom + (rest.map fun v => v.category).sum ≤ W) (hd : decode c.code g.pc = .ok (.invokestatic index, 3)) (hc : k + rm.cells ≤ R.cells) (hn : n + rm.slots ≤ R.slots)
    (K : ∀ T' h' v, Wk p l e R s m args below meth c Z EL a0 true T' h' (k + rm.cells) (n + rm.slots) sf → h.size ≤ h'.size → Q v h' → Go p e below Φ T' { g with pc := g.pc + 3, stack := v.toList ++ rest }) : Go p e below Φ T g := by
  obtain ⟨hE, vm0, locs, k0, X, eT, r, hk, hZ, N, O, C, S⟩ := H
  obtain ⟨v, vm1, B, hWm, X', h2, gr, ⟨L, ⟨hL, O', hQ⟩, el, ek, en, C'⟩, st⟩ := callSS X hx (own_found r hown) (mvT hZ w1) (mvT hZ w2) (mvT hZ w3) (mvT hZ w4) hy (own_backW hM w4 w3 hf hl hZ hE C.1 fun x hx => S x (hsf x hx)) hg hsize hlen hstack hW hd fun _ _ => ⟨has, eT, hc, hn⟩
  exact Go.by st (K B.U _ v (own_wide hE X' r hk eT h2 gr hZ N C S hL O' el ek en C') C'.2.1 hQ)
theorem own_specialW (H : Wk p l e R s m args below meth c Z EL a0 true T h k n sf) (hx : p.tables.exec = Jvm.exec) {own : String} {index : Nat} {y : MethodName} {bytes : ByteArray} {maxL : Nat} (hy1 : y.name = "<init>") (hown : s.vm.findClass own = some m.cls) (w1 : (Cond.methodLink own index y).before a0 Z = true) (w2 : (Cond.instanceMethod y).before a0 Z = true) (w3 : (Cond.initialized y.cls).before a0 Z = true) (w4 : (Cond.code y bytes maxL none).before a0 Z = true)
    (hy : y.cls ≠ "java/lang/invoke/MethodHandle" ∧ y.cls ≠ "java/lang/invoke/VarHandle") {W : Nat} {rm : Room} {as' : Array Value} {sfc : List Addr} {Q : Option Value → Heap → Prop} (hM : Ct l Z EL a0 true y bytes maxL none [] rm as' h sfc Q) (hsf : ∀ x ∈ sfc, x ∈ sf) (hf : rm.frames + 1 ≤ R.frames) (hl : W + (maxL + 11) + rm.locals ≤ R.locals)
    {g : JFrame} (hg : g.method = m) (hsize : g.locals.size = c.maxLocals) {a : Addr} {argsL rest : List Value} (has : (.ref a :: argsL).toArray = as') (hlen : ∀ sig, parseMethodDescriptor y.desc = some sig → argsL.length = sig.parameters.length) (hstack : g.stack = argsL.reverse ++ .ref a :: rest) (hW : 2 * g.monitorRoom + (rest.map fun v => v.category).sum ≤ W) (hd : decode c.code g.pc = .ok (.invokespecial index, 3)) (hc : k + rm.cells ≤ R.cells) (hn : n + rm.slots ≤ R.slots)
    (K : ∀ T' h' v, Wk p l e R s m args below meth c Z EL a0 true T' h' (k + rm.cells) (n + rm.slots) sf → h.size ≤ h'.size → Q v h' → Go p e below Φ T' { g with pc := g.pc + 3, stack := v.toList ++ rest }) : Go p e below Φ T g := by
  obtain ⟨hE, vm0, locs, k0, X, eT, r, hk, hZ, N, O, C, S⟩ := H
  obtain ⟨v, vm1, B, hWm, X', h2, gr, ⟨L, ⟨hL, O', hQ⟩, el, ek, en, C'⟩, st⟩ := X.specialBackS hx hy1 (own_found r hown) (mvT hZ w1) (mvT hZ w2) (mvT hZ w4) hy (own_backW hM w4 w3 hf hl hZ hE C.1 fun x hx => S x (hsf x hx)) hg hsize (Steps.refl _) hlen hstack hW hd fun _ _ => ⟨has, eT, hc, hn⟩
  exact Go.by st (K B.U _ v (own_wide hE X' r hk eT h2 gr hZ N C S hL O' el ek en C') C'.2.1 hQ)
theorem own_virtualW (H : Wk p l e R s m args below meth c Z EL a0 true T h k n sf) (hx : p.tables.exec = Jvm.exec) {own C : String} {index : Nat} {y z : MethodName} {bytes : ByteArray} {maxL : Nat} {ret : Option FieldType} (hown : s.vm.findClass own = some m.cls) (w1 : (Cond.methodLink own index y).before a0 Z = true) (w2 : (Cond.declares y).before a0 Z = true) (hnf : ∀ vm0, Z.Warmed39 vm0 → NotFace (s.setVm vm0) y) (w3 : (Cond.selects C y z).before a0 Z = true) (w5 : (Cond.instanceMethod z).before a0 Z = true) (w6 : (Cond.initialized z.cls).before a0 Z = true) (w4 : (Cond.code z bytes maxL ret).before a0 Z = true)
    (hy : y.cls ≠ "java/lang/invoke/MethodHandle" ∧ y.cls ≠ "java/lang/invoke/VarHandle") {W : Nat} {rm : Room} {as' : Array Value} {sfc : List Addr} {Q : Option Value → Heap → Prop} (hM : Ct l Z EL a0 true z bytes maxL ret [] rm as' h sfc Q) (hsf : ∀ x ∈ sfc, x ∈ sf) (hf : rm.frames + 1 ≤ R.frames) (hl : W + (maxL + 11) + rm.locals ≤ R.locals)
    {b : Addr} (E : Exa Z h b C) {g : JFrame} (hg : g.method = m) (hsize : g.locals.size = c.maxLocals) {argsL rest : List Value} (has : (.ref b :: argsL).toArray = as') (hlen : ∀ sig, parseMethodDescriptor y.desc = some sig → argsL.length = sig.parameters.length) (hstack : g.stack = argsL.reverse ++ .ref b :: rest) (hW : 2 * g.monitorRoom + (rest.map fun v => v.category).sum ≤ W) (hd : decode c.code g.pc = .ok (.invokevirtual index, 3)) (hc : k + rm.cells ≤ R.cells) (hn : n + rm.slots ≤ R.slots)
    (K : ∀ T' h' v, Wk p l e R s m args below meth c Z EL a0 true T' h' (k + rm.cells) (n + rm.slots) sf → h.size ≤ h'.size → Q v h' → Go p e below Φ T' { g with pc := g.pc + 3, stack := v.toList ++ rest }) : Go p e below Φ T g := by
  obtain ⟨hE, vm0, locs, k0, X, eT, r, hk, hZ, N, O, C, S⟩ := H
  obtain ⟨cq, kq, qa, qb, qc⟩ := isOf (s := s.setVm vm0) hZ eT E
  obtain ⟨v, vm1, B, hWm, X', h2, gr, ⟨L, ⟨hL, O', hQ⟩, el, ek, en, C'⟩, st⟩ := X.virtualBackS hx (own_found r hown) (mvT hZ w1) (mvT hZ w2) (hnf vm0 hZ) (mvT hZ w3) (mvT hZ w5) hy (own_backW hM w4 w6 hf hl hZ hE C.1 fun x hx => S x (hsf x hx)) qa qc hg hsize (Steps.refl _) hlen hstack hW hd fun _ _ => ⟨has, eT, hc, hn⟩
  exact Go.by st (K B.U _ v (own_wide hE X' r hk eT h2 gr hZ N C S hL O' el ek en C') C'.2.1 hQ)
theorem own_nf {C : String} {y z : MethodName} (w3 : (Cond.selects C y z).before a0 Z = true) (q : y = z) : ∀ vm0, Z.Warmed39 vm0 → NotFace (s.setVm vm0) y := fun vm0 hZ => by
  subst q; exact notFace_of_selects (args := #[]) (mvT (s := s.setVm vm0) hZ w3)
theorem own_ifaceW (H : Wk p l e R s m args below meth c Z EL a0 true T h k n sf) (hx : p.tables.exec = Jvm.exec) {own C : String} {index count : Nat} {xi y : MethodName} {bytes : ByteArray} {maxL : Nat} {ret : Option FieldType} (hown : s.vm.findClass own = some m.cls) (w1 : (Cond.methodLink own index xi).before a0 Z = true) (w2 : (Cond.declares xi).before a0 Z = true) (w3 : (Cond.interfaceMethod xi.cls xi.cls xi.name xi.desc).before a0 Z = true) (w3f : ((Cond.interfaceMethod xi.cls xi.cls xi.name xi.desc).onTables && (Cond.interfaceMethod xi.cls xi.cls xi.name xi.desc).keepsFace) = true) (w5 : (Cond.selects C xi y).before a0 Z = true) (w6 : (Cond.instanceMethod y).before a0 Z = true) (w7 : (Cond.publicMethod y).before a0 Z = true) (w8 : (Cond.unhidden C xi.name xi.desc).before a0 Z = true) (w9 : (Cond.castable C xi.cls).before a0 Z = true) (w10 : (Cond.initialized y.cls).before a0 Z = true) (w4 : (Cond.code y bytes maxL ret).before a0 Z = true)
    (hy : xi.cls ≠ "java/lang/invoke/MethodHandle" ∧ xi.cls ≠ "java/lang/invoke/VarHandle") {W : Nat} {rm : Room} {as' : Array Value} {sfc : List Addr} {Q : Option Value → Heap → Prop} (hM : Ct l Z EL a0 true y bytes maxL ret [] rm as' h sfc Q) (hsf : ∀ x ∈ sfc, x ∈ sf) (hf : rm.frames + 1 ≤ R.frames) (hl : W + (maxL + 11) + rm.locals ≤ R.locals)
    {b : Addr} (E : Exa Z h b C) {g : JFrame} (hg : g.method = m) (hsize : g.locals.size = c.maxLocals) {argsL rest : List Value} (has : (.ref b :: argsL).toArray = as') (hlen : ∀ sig, parseMethodDescriptor xi.desc = some sig → argsL.length = sig.parameters.length) (hstack : g.stack = argsL.reverse ++ .ref b :: rest) (hW : 2 * g.monitorRoom + (rest.map fun v => v.category).sum ≤ W) (hd : decode c.code g.pc = .ok (.invokeinterface index count, 5)) (hc : k + rm.cells ≤ R.cells) (hn : n + rm.slots ≤ R.slots)
    (K : ∀ T' h' v, Wk p l e R s m args below meth c Z EL a0 true T' h' (k + rm.cells) (n + rm.slots) sf → h.size ≤ h'.size → Q v h' → Go p e below Φ T' { g with pc := g.pc + 5, stack := v.toList ++ rest }) : Go p e below Φ T g := by
  obtain ⟨hE, vm0, locs, k0, X, eT, r, hk, hZ, N, O, C, S⟩ := H
  obtain ⟨cq, kq, qa, qb, qc⟩ := isOf (s := s.setVm vm0) hZ eT E
  obtain ⟨v, vm1, B, hWm, X', h2, gr, ⟨L, ⟨hL, O', hQ⟩, el, ek, en, C'⟩, st⟩ := X.interfaceBackS hx (own_found r hown) (mvT hZ w1) (mvT hZ w2) (mvT hZ w3 w3f) (mvT hZ w5) (mvT hZ w6) (mvT hZ w7) (mvT hZ w8) (mvT hZ w9) hy (own_backW hM w4 w10 hf hl hZ hE C.1 fun x hx => S x (hsf x hx)) qa qb qc hg hsize (Steps.refl _) hlen hstack hW hd fun _ _ => ⟨has, eT, hc, hn⟩
  exact Go.by st (K B.U _ v (own_wide hE X' r hk eT h2 gr hZ N C S hL O' el ek en C') C'.2.1 hQ)
end OwnLayer
end Jvm.Pilot.@@N@@
namespace Jvm.Pilot.@@N@@
open Jvm Jvm.ClassFile Sem Op Lib Jvm.Free Jvm.Stand Jvm.LawKit Jvm.RoadKit Bundle Jvm.Pilot.@@N@@.Jvm.D
theorem ef_rm_pick (m : MethodId) (x0 : Int32) : entryFrame m #[(.int x0)] 1 = mkF m 0 #[.val (.int x0)] [] := by first | (simp [entryFrame, mkF, argsToLocals, Value.category]; done) | rfl
theorem pn_0 : plainName "com/example/bindery/bindery/DeliveryPropertyIsDestinationPinLaw" = true := by first | (simp [plainName, overriddenIn]; done) | decide +kernel
theorem d_2_0 : decode method_2_code 0 = .ok (.iload_n 0, 1) := by decide +kernel
theorem d_2_1 : decode method_2_code 1 = .ok (.ifCond .ne 7, 3) := by decide +kernel
theorem d_2_4 : decode method_2_code 4 = .ok (.getstatic 7, 3) := by decide +kernel
theorem d_2_7 : decode method_2_code 7 = .ok (.areturn, 1) := by decide +kernel
theorem d_2_8 : decode method_2_code 8 = .ok (.iload_n 0, 1) := by decide +kernel
theorem d_2_9 : decode method_2_code 9 = .ok (.iconst 1, 1) := by decide +kernel
theorem d_2_10 : decode method_2_code 10 = .ok (.if_icmp .ne 7, 3) := by decide +kernel
theorem d_2_13 : decode method_2_code 13 = .ok (.getstatic 13, 3) := by decide +kernel
theorem d_2_16 : decode method_2_code 16 = .ok (.areturn, 1) := by decide +kernel
theorem d_2_17 : decode method_2_code 17 = .ok (.iload_n 0, 1) := by decide +kernel
theorem d_2_18 : decode method_2_code 18 = .ok (.iconst 2, 1) := by decide +kernel
theorem d_2_19 : decode method_2_code 19 = .ok (.if_icmp .ne 7, 3) := by decide +kernel
theorem d_2_22 : decode method_2_code 22 = .ok (.getstatic 16, 3) := by decide +kernel
theorem d_2_25 : decode method_2_code 25 = .ok (.areturn, 1) := by decide +kernel
theorem d_2_26 : decode method_2_code 26 = .ok (.iload_n 0, 1) := by decide +kernel
theorem d_2_27 : decode method_2_code 27 = .ok (.iconst 3, 1) := by decide +kernel
theorem d_2_28 : decode method_2_code 28 = .ok (.if_icmp .ne 7, 3) := by decide +kernel
theorem d_2_31 : decode method_2_code 31 = .ok (.getstatic 19, 3) := by decide +kernel
theorem d_2_34 : decode method_2_code 34 = .ok (.areturn, 1) := by decide +kernel
theorem d_2_35 : decode method_2_code 35 = .ok (.iload_n 0, 1) := by decide +kernel
theorem d_2_36 : decode method_2_code 36 = .ok (.iconst 4, 1) := by decide +kernel
theorem d_2_37 : decode method_2_code 37 = .ok (.if_icmp .ne 7, 3) := by decide +kernel
theorem d_2_40 : decode method_2_code 40 = .ok (.getstatic 22, 3) := by decide +kernel
theorem d_2_43 : decode method_2_code 43 = .ok (.areturn, 1) := by decide +kernel
theorem d_2_44 : decode method_2_code 44 = .ok (.iload_n 0, 1) := by decide +kernel
theorem d_2_45 : decode method_2_code 45 = .ok (.iconst 5, 1) := by decide +kernel
theorem d_2_46 : decode method_2_code 46 = .ok (.if_icmp .ne 7, 3) := by decide +kernel
theorem d_2_49 : decode method_2_code 49 = .ok (.getstatic 25, 3) := by decide +kernel
theorem d_2_52 : decode method_2_code 52 = .ok (.areturn, 1) := by decide +kernel
theorem d_2_53 : decode method_2_code 53 = .ok (.getstatic 28, 3) := by decide +kernel
theorem d_2_56 : decode method_2_code 56 = .ok (.areturn, 1) := by decide +kernel
theorem ef_rm_isd (m : MethodId) (x0 : Addr) : entryFrame m #[(.ref x0)] 1 = mkF m 0 #[.val (.ref x0)] [] := by first | (simp [entryFrame, mkF, argsToLocals, Value.category]; done) | rfl
theorem pn_1 : plainName "com/example/bindery/bindery/DeliveryProperty" = true := by first | (simp [plainName, overriddenIn]; done) | decide +kernel
theorem d_prog_3_5_0 : decode prog_3_method_5_code 0 = .ok (.aload_n 0, 1) := by decide +kernel
theorem d_prog_3_5_1 : decode prog_3_method_5_code 1 = .ok (.getfield 48, 3) := by decide +kernel
theorem d_prog_3_5_4 : decode prog_3_method_5_code 4 = .ok (.getstatic 56, 3) := by decide +kernel
theorem d_prog_3_5_7 : decode prog_3_method_5_code 7 = .ok (.if_acmp .ne 7, 3) := by decide +kernel
theorem d_prog_3_5_10 : decode prog_3_method_5_code 10 = .ok (.iconst 1, 1) := by decide +kernel
theorem d_prog_3_5_11 : decode prog_3_method_5_code 11 = .ok (.goto 4, 3) := by decide +kernel
theorem d_prog_3_5_15 : decode prog_3_method_5_code 15 = .ok (.ireturn, 1) := by decide +kernel
theorem d_prog_3_5_14 : decode prog_3_method_5_code 14 = .ok (.iconst 0, 1) := by decide +kernel
theorem ef_rm_law (m : MethodId) (x0 : Int32) : entryFrame m #[(.int x0)] maxLocals = mkF m 0 #[.val (.int x0), .unset, .unset, .unset] [] := by first | (simp [entryFrame, mkF, argsToLocals, Value.category, maxLocals]; done) | rfl
theorem pd_0 : parseMethodDescriptor "(I)Lcom/example/bindery/bindery/DeliveryProperty;" = some ⟨[.int], some (.object "com/example/bindery/bindery/DeliveryProperty")⟩ := by decide +kernel
theorem pd_1 : parseMethodDescriptor "()Z" = some ⟨[], some .boolean⟩ := by decide +kernel
def own_pick (k : Int32) (w0 w1 w2 w3 w4 w5 w6 : Addr) : Addr := if k = 0 then w0 else if k = 1 then w1 else if k = 2 then w2 else if k = 3 then w3 else if k = 4 then w4 else if k = 5 then w5 else w6
def own_isd (f d : Addr) : Int32 := if f = d then 1 else 0
theorem own_picked {Z : State} {k : Int32} {w0 w1 w2 w3 w4 w5 w6 fD fU fN : Addr} (k0 : ¬ k < 0) (k7 : k < 7) (E0 : Exa Z Z.heap w0 "com/example/bindery/bindery/DeliveryProperty") (F0 : Fld Z Z.heap w0 "com/example/bindery/bindery/DeliveryProperty" "form" "Lcom/example/bindery/bindery/DeliveryProperty$Form;" (.ref fD)) (E1 : Exa Z Z.heap w1 "com/example/bindery/bindery/DeliveryProperty") (F1 : Fld Z Z.heap w1 "com/example/bindery/bindery/DeliveryProperty" "form" "Lcom/example/bindery/bindery/DeliveryProperty$Form;" (.ref fD)) (E2 : Exa Z Z.heap w2 "com/example/bindery/bindery/DeliveryProperty") (F2 : Fld Z Z.heap w2 "com/example/bindery/bindery/DeliveryProperty" "form" "Lcom/example/bindery/bindery/DeliveryProperty$Form;" (.ref fD)) (E3 : Exa Z Z.heap w3 "com/example/bindery/bindery/DeliveryProperty") (F3 : Fld Z Z.heap w3 "com/example/bindery/bindery/DeliveryProperty" "form" "Lcom/example/bindery/bindery/DeliveryProperty$Form;" (.ref fD)) (E4 : Exa Z Z.heap w4 "com/example/bindery/bindery/DeliveryProperty") (F4 : Fld Z Z.heap w4 "com/example/bindery/bindery/DeliveryProperty" "form" "Lcom/example/bindery/bindery/DeliveryProperty$Form;" (.ref fU)) (E5 : Exa Z Z.heap w5 "com/example/bindery/bindery/DeliveryProperty") (F5 : Fld Z Z.heap w5 "com/example/bindery/bindery/DeliveryProperty" "form" "Lcom/example/bindery/bindery/DeliveryProperty$Form;" (.ref fU)) (E6 : Exa Z Z.heap w6 "com/example/bindery/bindery/DeliveryProperty") (F6 : Fld Z Z.heap w6 "com/example/bindery/bindery/DeliveryProperty" "form" "Lcom/example/bindery/bindery/DeliveryProperty$Form;" (.ref fN)) (nU : fU ≠ fD) (nN : fN ≠ fD) :
    Exa Z Z.heap (own_pick k w0 w1 w2 w3 w4 w5 w6) "com/example/bindery/bindery/DeliveryProperty" ∧ ∃ f, Fld Z Z.heap (own_pick k w0 w1 w2 w3 w4 w5 w6) "com/example/bindery/bindery/DeliveryProperty" "form" "Lcom/example/bindery/bindery/DeliveryProperty$Form;" (.ref f) ∧ (f = fD ↔ k < 4) := by
  unfold own_pick
  by_cases h0 : k = 0
  · subst h0; exact ⟨E0, fD, F0, ⟨fun _ => by decide, fun _ => rfl⟩⟩
  by_cases h1 : k = 1
  · subst h1; exact ⟨E1, fD, F1, ⟨fun _ => by decide, fun _ => rfl⟩⟩
  by_cases h2 : k = 2
  · subst h2; exact ⟨E2, fD, F2, ⟨fun _ => by decide, fun _ => rfl⟩⟩
  by_cases h3 : k = 3
  · subst h3; exact ⟨E3, fD, F3, ⟨fun _ => by decide, fun _ => rfl⟩⟩
  have h4 : ¬ k < 4 := by
    simp only [Int32.lt_iff_toInt_lt, ← Int32.toInt_inj, Int32.reduceToInt] at *; omega
  rw [if_neg h0, if_neg h1, if_neg h2, if_neg h3]
  by_cases h5 : k = 4
  · subst h5; exact ⟨E4, fU, F4, by simp [nU]⟩
  rw [if_neg h5]
  by_cases h6 : k = 5
  · subst h6; exact ⟨E5, fU, F5, by simp [nU]⟩
  rw [if_neg h6]
  exact ⟨E6, fN, F6, by simp [nN, h4]⟩
theorem own_k7 (x : Int32) : ¬ ((x &&& (2147483647 : Int32)) % (7 : Int32)) < 0 ∧ ((x &&& (2147483647 : Int32)) % (7 : Int32)) < 7 := by
  have h1 := c_and x (2147483647 : Int32) (by decide)
  have h2 := (c_iremV (x &&& 2147483647) 7).1 h1.1 (by decide)
  have e7 : (7 : Int32).toInt = 7 := by decide
  have e0 : (0 : Int32).toInt = 0 := by decide
  simp only [Int32.lt_iff_toInt_lt, e7, e0] at *; omega
theorem own_fldR {args : Array Value} {s : State} {t t2 : Term} {C n d : String} {x y : Addr} (ht : t.eval args s none [] s = some (.ref x)) (h2 : t2.eval args s none [] s = some (.ref y)) (q : (Jvm.Cond.eq (.field t C n d) t2).value args s none s [] = some true) : Fld s s.heap x C n d (.ref y) := by
  obtain ⟨a, b, e1, e2, k1, k2⟩ := cmp_v (Or.inl q)
  cases e2.symm.trans h2
  have ra : a.isRef = true := k2.2
  have hq := gotT (eq_R e1 h2 ra rfl) q
  subst hq
  rw [fld_at ht] at e1
  exact Fld.start e1
theorem own_fldI {args : Array Value} {s : State} {t : Term} {C n d : String} {x : Addr} {z : Int32} (ht : t.eval args s none [] s = some (.ref x)) (q : (Jvm.Cond.eq (.field t C n d) (.int z)).value args s none s [] = some true) : Fld s s.heap x C n d (.int z) := by
  obtain ⟨a, b, e1, e2, k1, k2⟩ := cmp_v (Or.inl q)
  cases e2.symm.trans (Term.int_eval z)
  obtain ⟨y, rfl⟩ := k2
  have hq := gotT (Cond.eq_ints e1 (Term.int_eval z)) q
  subst hq
  rw [fld_at ht] at e1
  exact Fld.start e1
set_option maxRecDepth 65536 in
set_option maxHeartbeats 40000000 in
theorem rm_pick (l : Launch) (Z : State) (a0 : Array Value) (hw : ∀ d ∈ tables_1, d.before a0 Z = true) (hE : EW Z a0 []) (p1 : Int32) (w0 : Addr) (w1 : Addr) (w2 : Addr) (w3 : Addr) (w4 : Addr) (w5 : Addr) (w6 : Addr) (h0 : Heap) (O0 : Ext Z.heap h0) (S0 : Sta Z Z.heap "com/example/bindery/bindery/DeliveryProperty" "MESSAGE_ORIGINATOR" "Lcom/example/bindery/bindery/DeliveryProperty;" (.ref w0)) (S1 : Sta Z Z.heap "com/example/bindery/bindery/DeliveryProperty" "MESSAGE_DESTINATION" "Lcom/example/bindery/bindery/DeliveryProperty;" (.ref w1)) (S2 : Sta Z Z.heap "com/example/bindery/bindery/DeliveryProperty" "REPLY_DESTINATION" "Lcom/example/bindery/bindery/DeliveryProperty;" (.ref w2)) (S3 : Sta Z Z.heap "com/example/bindery/bindery/DeliveryProperty" "FAULT_DESTINATION" "Lcom/example/bindery/bindery/DeliveryProperty;" (.ref w3)) (S4 : Sta Z Z.heap "com/example/bindery/bindery/DeliveryProperty" "MESSAGE_ID" "Lcom/example/bindery/bindery/DeliveryProperty;" (.ref w4)) (S5 : Sta Z Z.heap "com/example/bindery/bindery/DeliveryProperty" "MESSAGE_REFERENCE" "Lcom/example/bindery/bindery/DeliveryProperty;" (.ref w5)) (S6 : Sta Z Z.heap "com/example/bindery/bindery/DeliveryProperty" "OPERATION_NAME" "Lcom/example/bindery/bindery/DeliveryProperty;" (.ref w6)) :
    Ct l Z [] a0 false (⟨"com/example/bindery/bindery/DeliveryPropertyIsDestinationPinLaw", "pick", "(I)Lcom/example/bindery/bindery/DeliveryProperty;"⟩ : MethodName) method_2_code 1 (some (.object "com/example/bindery/bindery/DeliveryProperty")) [] ({ frames := 0, cells := 0, slots := 0, locals := 0 } : Room) #[(.int p1)] h0 [] (fun v h => v = some (.ref (own_pick p1 w0 w1 w2 w3 w4 w5 w6)) ∧ h0 = h) := by
  refine own_enter (plainFor_of_name pn_0) hE O0 ?_
  intro p e s m below meth c s₁ hx hby hml hown hnm hret hlk H0
  refine Go.eq (ef_rm_pick m p1) ?_
  show Go p e below _ s₁ (mkF m 0 #[.val (.int p1)] [])
  refine Go.of (fun _ => XS.iloadN H0.here hx rfl (hb hby d_2_0) rfl) ?_
  show Go p e below _ s₁ (mkF m 1 #[.val (.int p1)] [(.int p1)])
  by_cases hc1 : p1 = (0 : Int32)
  · skip
    refine Go.of (fun _ => XS.ifNo H0.here hx rfl (hb hby d_2_1) rfl ((if0 _ _).trans (teq hc1).2)) ?_
    show Go p e below _ s₁ (mkF m 4 #[.val (.int p1)] [])
    refine own_getS H0 hx hown (host := "") (Or.inl (ow hw 5 rfl)) Via.refl S0 rfl (hb hby d_2_4) fun T2 H3 => ?_
    show Go p e below _ T2 (mkF m 7 #[.val (.int p1)] [(.ref w0)])
    exact own_retA H3 hx hlk hret rfl rfl (hb hby d_2_7) ⟨by unfold own_pick; rw [if_pos hc1], rfl⟩ (by decide) (by decide)
  · skip
    refine Go.of (fun _ => XS.ifYes H0.here hx rfl (pc0 := 1) (pc' := 8) rfl (hb hby d_2_1) rfl ((if0 _ _).trans (feq hc1).2) (by decide) (by decide)) ?_
    show Go p e below _ s₁ (mkF m 8 #[.val (.int p1)] [])
    refine Go.of (fun _ => XS.iloadN H0.here hx rfl (hb hby d_2_8) rfl) ?_
    show Go p e below _ s₁ (mkF m 9 #[.val (.int p1)] [(.int p1)])
    refine Go.of (fun _ => XS.iconst H0.here hx rfl (hb hby d_2_9)) ?_
    show Go p e below _ s₁ (mkF m 10 #[.val (.int p1)] [(.int (1 : Int32)), (.int p1)])
    by_cases hc4 : p1 = (1 : Int32)
    · skip
      refine Go.of (fun _ => XS.icmpNo H0.here hx rfl (hb hby d_2_10) rfl (teq hc4).2) ?_
      show Go p e below _ s₁ (mkF m 13 #[.val (.int p1)] [])
      refine own_getS H0 hx hown (host := "") (Or.inl (ow hw 30 rfl)) Via.refl S1 rfl (hb hby d_2_13) fun T5 H6 => ?_
      show Go p e below _ T5 (mkF m 16 #[.val (.int p1)] [(.ref w1)])
      exact own_retA H6 hx hlk hret rfl rfl (hb hby d_2_16) ⟨by unfold own_pick; rw [if_neg hc1, if_pos hc4], rfl⟩ (by decide) (by decide)
    · skip
      refine Go.of (fun _ => XS.icmpYes H0.here hx rfl (pc0 := 10) (pc' := 17) rfl (hb hby d_2_10) rfl (feq hc4).2 (by decide) (by decide)) ?_
      show Go p e below _ s₁ (mkF m 17 #[.val (.int p1)] [])
      refine Go.of (fun _ => XS.iloadN H0.here hx rfl (hb hby d_2_17) rfl) ?_
      show Go p e below _ s₁ (mkF m 18 #[.val (.int p1)] [(.int p1)])
      refine Go.of (fun _ => XS.iconst H0.here hx rfl (hb hby d_2_18)) ?_
      show Go p e below _ s₁ (mkF m 19 #[.val (.int p1)] [(.int (2 : Int32)), (.int p1)])
      by_cases hc7 : p1 = (2 : Int32)
      · skip
        refine Go.of (fun _ => XS.icmpNo H0.here hx rfl (hb hby d_2_19) rfl (teq hc7).2) ?_
        show Go p e below _ s₁ (mkF m 22 #[.val (.int p1)] [])
        refine own_getS H0 hx hown (host := "") (Or.inl (ow hw 28 rfl)) Via.refl S2 rfl (hb hby d_2_22) fun T8 H9 => ?_
        show Go p e below _ T8 (mkF m 25 #[.val (.int p1)] [(.ref w2)])
        exact own_retA H9 hx hlk hret rfl rfl (hb hby d_2_25) ⟨by unfold own_pick; rw [if_neg hc1, if_neg hc4, if_pos hc7], rfl⟩ (by decide) (by decide)
      · skip
        refine Go.of (fun _ => XS.icmpYes H0.here hx rfl (pc0 := 19) (pc' := 26) rfl (hb hby d_2_19) rfl (feq hc7).2 (by decide) (by decide)) ?_
        show Go p e below _ s₁ (mkF m 26 #[.val (.int p1)] [])
        refine Go.of (fun _ => XS.iloadN H0.here hx rfl (hb hby d_2_26) rfl) ?_
        show Go p e below _ s₁ (mkF m 27 #[.val (.int p1)] [(.int p1)])
        refine Go.of (fun _ => XS.iconst H0.here hx rfl (hb hby d_2_27)) ?_
        show Go p e below _ s₁ (mkF m 28 #[.val (.int p1)] [(.int (3 : Int32)), (.int p1)])
        by_cases hc10 : p1 = (3 : Int32)
        · skip
          refine Go.of (fun _ => XS.icmpNo H0.here hx rfl (hb hby d_2_28) rfl (teq hc10).2) ?_
          show Go p e below _ s₁ (mkF m 31 #[.val (.int p1)] [])
          refine own_getS H0 hx hown (host := "") (Or.inl (ow hw 18 rfl)) Via.refl S3 rfl (hb hby d_2_31) fun T11 H12 => ?_
          show Go p e below _ T11 (mkF m 34 #[.val (.int p1)] [(.ref w3)])
          exact own_retA H12 hx hlk hret rfl rfl (hb hby d_2_34) ⟨by unfold own_pick; rw [if_neg hc1, if_neg hc4, if_neg hc7, if_pos hc10], rfl⟩ (by decide) (by decide)
        · skip
          refine Go.of (fun _ => XS.icmpYes H0.here hx rfl (pc0 := 28) (pc' := 35) rfl (hb hby d_2_28) rfl (feq hc10).2 (by decide) (by decide)) ?_
          show Go p e below _ s₁ (mkF m 35 #[.val (.int p1)] [])
          refine Go.of (fun _ => XS.iloadN H0.here hx rfl (hb hby d_2_35) rfl) ?_
          show Go p e below _ s₁ (mkF m 36 #[.val (.int p1)] [(.int p1)])
          refine Go.of (fun _ => XS.iconst H0.here hx rfl (hb hby d_2_36)) ?_
          show Go p e below _ s₁ (mkF m 37 #[.val (.int p1)] [(.int (4 : Int32)), (.int p1)])
          by_cases hc13 : p1 = (4 : Int32)
          · skip
            refine Go.of (fun _ => XS.icmpNo H0.here hx rfl (hb hby d_2_37) rfl (teq hc13).2) ?_
            show Go p e below _ s₁ (mkF m 40 #[.val (.int p1)] [])
            refine own_getS H0 hx hown (host := "") (Or.inl (ow hw 26 rfl)) Via.refl S4 rfl (hb hby d_2_40) fun T14 H15 => ?_
            show Go p e below _ T14 (mkF m 43 #[.val (.int p1)] [(.ref w4)])
            exact own_retA H15 hx hlk hret rfl rfl (hb hby d_2_43) ⟨by unfold own_pick; rw [if_neg hc1, if_neg hc4, if_neg hc7, if_neg hc10, if_pos hc13], rfl⟩ (by decide) (by decide)
          · skip
            refine Go.of (fun _ => XS.icmpYes H0.here hx rfl (pc0 := 37) (pc' := 44) rfl (hb hby d_2_37) rfl (feq hc13).2 (by decide) (by decide)) ?_
            show Go p e below _ s₁ (mkF m 44 #[.val (.int p1)] [])
            refine Go.of (fun _ => XS.iloadN H0.here hx rfl (hb hby d_2_44) rfl) ?_
            show Go p e below _ s₁ (mkF m 45 #[.val (.int p1)] [(.int p1)])
            refine Go.of (fun _ => XS.iconst H0.here hx rfl (hb hby d_2_45)) ?_
            show Go p e below _ s₁ (mkF m 46 #[.val (.int p1)] [(.int (5 : Int32)), (.int p1)])
            by_cases hc16 : p1 = (5 : Int32)
            · skip
              refine Go.of (fun _ => XS.icmpNo H0.here hx rfl (hb hby d_2_46) rfl (teq hc16).2) ?_
              show Go p e below _ s₁ (mkF m 49 #[.val (.int p1)] [])
              refine own_getS H0 hx hown (host := "") (Or.inl (ow hw 20 rfl)) Via.refl S5 rfl (hb hby d_2_49) fun T17 H18 => ?_
              show Go p e below _ T17 (mkF m 52 #[.val (.int p1)] [(.ref w5)])
              exact own_retA H18 hx hlk hret rfl rfl (hb hby d_2_52) ⟨by unfold own_pick; rw [if_neg hc1, if_neg hc4, if_neg hc7, if_neg hc10, if_neg hc13, if_pos hc16], rfl⟩ (by decide) (by decide)
            · skip
              refine Go.of (fun _ => XS.icmpYes H0.here hx rfl (pc0 := 46) (pc' := 53) rfl (hb hby d_2_46) rfl (feq hc16).2 (by decide) (by decide)) ?_
              show Go p e below _ s₁ (mkF m 53 #[.val (.int p1)] [])
              refine own_getS H0 hx hown (host := "") (Or.inl (ow hw 23 rfl)) Via.refl S6 rfl (hb hby d_2_53) fun T19 H20 => ?_
              show Go p e below _ T19 (mkF m 56 #[.val (.int p1)] [(.ref w6)])
              exact own_retA H20 hx hlk hret rfl rfl (hb hby d_2_56) ⟨by unfold own_pick; rw [if_neg hc1, if_neg hc4, if_neg hc7, if_neg hc10, if_neg hc13, if_neg hc16], rfl⟩ (by decide) (by decide)
set_option maxRecDepth 65536 in
set_option maxHeartbeats 40000000 in
theorem rm_isd (l : Launch) (Z : State) (a0 : Array Value) (hw : ∀ d ∈ tables_1, d.before a0 Z = true) (hE : EW Z a0 []) (a1 : Addr) (f1 : Addr) (d1 : Addr) (h0 : Heap) (O0 : Ext Z.heap h0) (F1 : Fld Z h0 a1 "com/example/bindery/bindery/DeliveryProperty" "form" "Lcom/example/bindery/bindery/DeliveryProperty$Form;" (.ref f1)) (S1 : Sta Z Z.heap "com/example/bindery/bindery/DeliveryProperty$Form" "DESTINATION" "Lcom/example/bindery/bindery/DeliveryProperty$Form;" (.ref d1)) :
    Ct l Z [] a0 false (⟨"com/example/bindery/bindery/DeliveryProperty", "isDestination", "()Z"⟩ : MethodName) prog_3_method_5_code 1 (some .boolean) [] ({ frames := 0, cells := 0, slots := 0, locals := 0 } : Room) #[(.ref a1)] h0 [] (fun v h => v = some (.int (own_isd f1 d1)) ∧ h0 = h) := by
  refine own_enter (plainFor_of_name pn_1) hE O0 ?_
  intro p e s m below meth c s₁ hx hby hml hown hnm hret hlk H0
  refine Go.eq (ef_rm_isd m a1) ?_
  show Go p e below _ s₁ (mkF m 0 #[.val (.ref a1)] [])
  refine Go.of (fun _ => XS.aloadN H0.here hx rfl (hb hby d_prog_3_5_0) rfl rfl) ?_
  show Go p e below _ s₁ (mkF m 1 #[.val (.ref a1)] [(.ref a1)])
  refine own_getF H0 hx hown (host := "") (Or.inl (ow hw 13 rfl)) Via.refl F1 rfl rfl (hb hby d_prog_3_5_1) fun T1 H2 => ?_
  show Go p e below _ T1 (mkF m 4 #[.val (.ref a1)] [(.ref f1)])
  refine own_getS H2 hx hown (host := "") (Or.inl (ow hw 17 rfl)) Via.refl S1 rfl (hb hby d_prog_3_5_4) fun T3 H4 => ?_
  show Go p e below _ T3 (mkF m 7 #[.val (.ref a1)] [(.ref d1), (.ref f1)])
  by_cases hc5 : ((.ref f1) : Value) = (.ref d1)
  · skip
    refine Go.of (fun _ => Jvm.Free.XT.acmpNo H4.here hx rfl (hb hby d_prog_3_5_7) rfl rfl rfl (own_acNf hc5)) ?_
    show Go p e below _ T3 (mkF m 10 #[.val (.ref a1)] [])
    refine Go.of (fun _ => XS.iconst H4.here hx rfl (hb hby d_prog_3_5_10)) ?_
    show Go p e below _ T3 (mkF m 11 #[.val (.ref a1)] [(.int (1 : Int32))])
    refine Go.of (fun _ => XS.goto H4.here hx rfl (pc0 := 11) (pc' := 15) rfl (hb hby d_prog_3_5_11) (by decide) (by decide)) ?_
    show Go p e below _ T3 (mkF m 15 #[.val (.ref a1)] [(.int (1 : Int32))])
    exact own_retN H4 hx hlk (t := .boolean) hret (by simp) (hb hby d_prog_3_5_15) ⟨by unfold own_isd; rw [if_pos (Value.ref.inj hc5)]; rfl, rfl⟩ (by decide) (by decide)
  · skip
    refine Go.of (fun _ => Jvm.Free.XT.acmpYes H4.here hx rfl (pc0 := 7) (pc' := 14) rfl (hb hby d_prog_3_5_7) rfl rfl rfl (own_acNt hc5) (by decide) (by decide)) ?_
    show Go p e below _ T3 (mkF m 14 #[.val (.ref a1)] [])
    refine Go.of (fun _ => XS.iconst H4.here hx rfl (hb hby d_prog_3_5_14)) ?_
    show Go p e below _ T3 (mkF m 15 #[.val (.ref a1)] [(.int (0 : Int32))])
    exact own_retN H4 hx hlk (t := .boolean) hret (by simp) (hb hby d_prog_3_5_15) ⟨by unfold own_isd; rw [if_neg (fun q => hc5 (congrArg Value.ref q))]; rfl, rfl⟩ (by decide) (by decide)
set_option maxRecDepth 65536 in
set_option maxHeartbeats 40000000 in
theorem rm_law (l : Launch) (Z : State) (a0 : Array Value) (hw : ∀ d ∈ tables_1, d.before a0 Z = true) (hE : EW Z a0 []) (p0 : Int32) (w0 : Addr) (w1 : Addr) (w2 : Addr) (w3 : Addr) (w4 : Addr) (w5 : Addr) (w6 : Addr) (fD : Addr) (fU : Addr) (fN : Addr) (h0 : Heap) (O0 : Ext Z.heap h0) (S0 : Sta Z Z.heap "com/example/bindery/bindery/DeliveryProperty" "MESSAGE_ORIGINATOR" "Lcom/example/bindery/bindery/DeliveryProperty;" (.ref w0)) (S1 : Sta Z Z.heap "com/example/bindery/bindery/DeliveryProperty" "MESSAGE_DESTINATION" "Lcom/example/bindery/bindery/DeliveryProperty;" (.ref w1)) (S2 : Sta Z Z.heap "com/example/bindery/bindery/DeliveryProperty" "REPLY_DESTINATION" "Lcom/example/bindery/bindery/DeliveryProperty;" (.ref w2)) (S3 : Sta Z Z.heap "com/example/bindery/bindery/DeliveryProperty" "FAULT_DESTINATION" "Lcom/example/bindery/bindery/DeliveryProperty;" (.ref w3)) (S4 : Sta Z Z.heap "com/example/bindery/bindery/DeliveryProperty" "MESSAGE_ID" "Lcom/example/bindery/bindery/DeliveryProperty;" (.ref w4)) (S5 : Sta Z Z.heap "com/example/bindery/bindery/DeliveryProperty" "MESSAGE_REFERENCE" "Lcom/example/bindery/bindery/DeliveryProperty;" (.ref w5)) (S6 : Sta Z Z.heap "com/example/bindery/bindery/DeliveryProperty" "OPERATION_NAME" "Lcom/example/bindery/bindery/DeliveryProperty;" (.ref w6)) (E0 : Exa Z Z.heap w0 "com/example/bindery/bindery/DeliveryProperty") (E1 : Exa Z Z.heap w1 "com/example/bindery/bindery/DeliveryProperty") (E2 : Exa Z Z.heap w2 "com/example/bindery/bindery/DeliveryProperty") (E3 : Exa Z Z.heap w3 "com/example/bindery/bindery/DeliveryProperty") (E4 : Exa Z Z.heap w4 "com/example/bindery/bindery/DeliveryProperty") (E5 : Exa Z Z.heap w5 "com/example/bindery/bindery/DeliveryProperty") (E6 : Exa Z Z.heap w6 "com/example/bindery/bindery/DeliveryProperty") (F0 : Fld Z Z.heap w0 "com/example/bindery/bindery/DeliveryProperty" "form" "Lcom/example/bindery/bindery/DeliveryProperty$Form;" (.ref fD)) (F1 : Fld Z Z.heap w1 "com/example/bindery/bindery/DeliveryProperty" "form" "Lcom/example/bindery/bindery/DeliveryProperty$Form;" (.ref fD)) (F2 : Fld Z Z.heap w2 "com/example/bindery/bindery/DeliveryProperty" "form" "Lcom/example/bindery/bindery/DeliveryProperty$Form;" (.ref fD)) (F3 : Fld Z Z.heap w3 "com/example/bindery/bindery/DeliveryProperty" "form" "Lcom/example/bindery/bindery/DeliveryProperty$Form;" (.ref fD)) (F4 : Fld Z Z.heap w4 "com/example/bindery/bindery/DeliveryProperty" "form" "Lcom/example/bindery/bindery/DeliveryProperty$Form;" (.ref fU)) (F5 : Fld Z Z.heap w5 "com/example/bindery/bindery/DeliveryProperty" "form" "Lcom/example/bindery/bindery/DeliveryProperty$Form;" (.ref fU)) (F6 : Fld Z Z.heap w6 "com/example/bindery/bindery/DeliveryProperty" "form" "Lcom/example/bindery/bindery/DeliveryProperty$Form;" (.ref fN)) (SD : Sta Z Z.heap "com/example/bindery/bindery/DeliveryProperty$Form" "DESTINATION" "Lcom/example/bindery/bindery/DeliveryProperty$Form;" (.ref fD)) (nU : fU ≠ fD) (nN : fN ≠ fD) :
    Ct l Z [] a0 false x code maxLocals ret tables_1 room_1 #[(.int p0)] h0 [] (fun v h => v = some (.int 1)) := by
  refine own_enter (plainFor_of_name pn_0) hE O0 ?_
  intro p e s m below meth c s₁ hx hby hml hown hnm hret hlk H0
  have hml : c.maxLocals = 4 := hml
  have hret : meth.sig.returnType = (some .boolean) := hret
  refine Go.eq (ef_rm_law m p0) ?_
  show Go p e below _ s₁ (mkF m 0 #[.val (.int p0), .unset, .unset, .unset] [])
  refine Go.of (fun _ => XS.iloadN H0.here hx rfl (hb hby at_0) rfl) ?_
  show Go p e below _ s₁ (mkF m 1 #[.val (.int p0), .unset, .unset, .unset] [(.int p0)])
  refine own_ldcI H0 hx hown (ow hw 0 rfl) rfl (hb hby at_1) ?_
  show Go p e below _ s₁ (mkF m 3 #[.val (.int p0), .unset, .unset, .unset] [(.int (2147483647 : Int32)), (.int p0)])
  refine Go.of (fun _ => XS.iand H0.here hx rfl (hb hby at_3) rfl) ?_
  show Go p e below _ s₁ (mkF m 4 #[.val (.int p0), .unset, .unset, .unset] [(.int (p0 &&& (2147483647 : Int32)))])
  refine Go.of (fun _ => XS.bipush H0.here hx rfl (hb hby at_4)) ?_
  show Go p e below _ s₁ (mkF m 6 #[.val (.int p0), .unset, .unset, .unset] [(.int (7 : Int32)), (.int (p0 &&& (2147483647 : Int32)))])
  refine own_irem H0 hx rfl (hb hby at_6) rfl (by decide) ?_
  show Go p e below _ s₁ (mkF m 7 #[.val (.int p0), .unset, .unset, .unset] [(.int ((p0 &&& (2147483647 : Int32)) % (7 : Int32)))])
  refine Go.of (fun _ => XS.istoreN H0.here hx rfl (hb hby at_7) rfl (l' := #[.val (.int p0), .val (.int ((p0 &&& (2147483647 : Int32)) % (7 : Int32))), .unset, .unset]) rfl) ?_
  show Go p e below _ s₁ (mkF m 8 #[.val (.int p0), .val (.int ((p0 &&& (2147483647 : Int32)) % (7 : Int32))), .unset, .unset] [])
  refine Go.of (fun _ => XS.iloadN H0.here hx rfl (hb hby at_8) rfl) ?_
  show Go p e below _ s₁ (mkF m 9 #[.val (.int p0), .val (.int ((p0 &&& (2147483647 : Int32)) % (7 : Int32))), .unset, .unset] [(.int ((p0 &&& (2147483647 : Int32)) % (7 : Int32)))])
  refine own_staticB H0 hx (y := (⟨"com/example/bindery/bindery/DeliveryPropertyIsDestinationPinLaw", "pick", "(I)Lcom/example/bindery/bindery/DeliveryProperty;"⟩ : MethodName)) hown (ow hw 1 rfl) (ow hw 2 rfl) (ow hw 3 rfl) (ow hw 4 rfl) (by decide) (fun v h' L => Fr Z.heap.size L ∧ Ext Z.heap h' ∧ (fun v => v = some (.ref (own_pick ((p0 &&& (2147483647 : Int32)) % (7 : Int32)) w0 w1 w2 w3 w4 w5 w6))) v ∧ h0 = h') (fun vm0 hZ _ => own_backN (W := 0) (rm_pick l Z a0 hw EW.nil ((p0 &&& (2147483647 : Int32)) % (7 : Int32)) w0 w1 w2 w3 w4 w5 w6 h0 H0.old S0 S1 S2 S3 S4 S5 S6) (ow hw 4 rfl) (ow hw 3 rfl) (by decide) (by decide) hZ) own_pure (fun _ hq => nomatch hq) rfl (by rw [hml]; rfl) (argsL := [(.int ((p0 &&& (2147483647 : Int32)) % (7 : Int32)))]) (rest := []) rfl (lenOf pd_0 rfl) rfl (by show 2 * 0 + _ ≤ _; exact Nat.le_of_eq rfl) (hb hby at_9) (by decide) (by decide) fun T1 h3 v6 L4 H2 q5 => ?_
  obtain ⟨-, -, v6e, h3e⟩ := q5
  subst h3e
  cases v6e
  show Go p e below _ T1 (mkF m 12 #[.val (.int p0), .val (.int ((p0 &&& (2147483647 : Int32)) % (7 : Int32))), .unset, .unset] [(.ref (own_pick ((p0 &&& (2147483647 : Int32)) % (7 : Int32)) w0 w1 w2 w3 w4 w5 w6))])
  obtain ⟨EP, fo, FP, hfo⟩ := own_picked (own_k7 p0).1 (own_k7 p0).2 E0 F0 E1 F1 E2 F2 E3 F3 E4 F4 E5 F5 E6 F6 nU nN
  have EP := EP.ext O0
  have FP := FP.ext O0
  refine Go.of (fun _ => XS.astoreN H2.here hx rfl (hb hby at_12) rfl rfl (l' := #[.val (.int p0), .val (.int ((p0 &&& (2147483647 : Int32)) % (7 : Int32))), .val (.ref (own_pick ((p0 &&& (2147483647 : Int32)) % (7 : Int32)) w0 w1 w2 w3 w4 w5 w6)), .unset]) rfl) ?_
  show Go p e below _ T1 (mkF m 13 #[.val (.int p0), .val (.int ((p0 &&& (2147483647 : Int32)) % (7 : Int32))), .val (.ref (own_pick ((p0 &&& (2147483647 : Int32)) % (7 : Int32)) w0 w1 w2 w3 w4 w5 w6)), .unset] [])
  refine Go.of (fun _ => XS.iloadN H2.here hx rfl (hb hby at_13) rfl) ?_
  show Go p e below _ T1 (mkF m 14 #[.val (.int p0), .val (.int ((p0 &&& (2147483647 : Int32)) % (7 : Int32))), .val (.ref (own_pick ((p0 &&& (2147483647 : Int32)) % (7 : Int32)) w0 w1 w2 w3 w4 w5 w6)), .unset] [(.int ((p0 &&& (2147483647 : Int32)) % (7 : Int32)))])
  refine Go.of (fun _ => XS.iconst H2.here hx rfl (hb hby at_14)) ?_
  show Go p e below _ T1 (mkF m 15 #[.val (.int p0), .val (.int ((p0 &&& (2147483647 : Int32)) % (7 : Int32))), .val (.ref (own_pick ((p0 &&& (2147483647 : Int32)) % (7 : Int32)) w0 w1 w2 w3 w4 w5 w6)), .unset] [(.int (4 : Int32)), (.int ((p0 &&& (2147483647 : Int32)) % (7 : Int32)))])
  by_cases hc7 : ((p0 &&& (2147483647 : Int32)) % (7 : Int32)) < (4 : Int32)
  · skip
    refine Go.of (fun _ => XS.icmpNo H2.here hx rfl (hb hby at_15) rfl (tlt hc7).2.1) ?_
    show Go p e below _ T1 (mkF m 18 #[.val (.int p0), .val (.int ((p0 &&& (2147483647 : Int32)) % (7 : Int32))), .val (.ref (own_pick ((p0 &&& (2147483647 : Int32)) % (7 : Int32)) w0 w1 w2 w3 w4 w5 w6)), .unset] [])
    refine Go.of (fun _ => XS.iconst H2.here hx rfl (hb hby at_18)) ?_
    show Go p e below _ T1 (mkF m 19 #[.val (.int p0), .val (.int ((p0 &&& (2147483647 : Int32)) % (7 : Int32))), .val (.ref (own_pick ((p0 &&& (2147483647 : Int32)) % (7 : Int32)) w0 w1 w2 w3 w4 w5 w6)), .unset] [(.int (1 : Int32))])
    refine Go.of (fun _ => XS.goto H2.here hx rfl (pc0 := 19) (pc' := 23) rfl (hb hby at_19) (by decide) (by decide)) ?_
    show Go p e below _ T1 (mkF m 23 #[.val (.int p0), .val (.int ((p0 &&& (2147483647 : Int32)) % (7 : Int32))), .val (.ref (own_pick ((p0 &&& (2147483647 : Int32)) % (7 : Int32)) w0 w1 w2 w3 w4 w5 w6)), .unset] [(.int (1 : Int32))])
    refine Go.of (fun _ => XS.istoreN H2.here hx rfl (hb hby at_23) rfl (l' := #[.val (.int p0), .val (.int ((p0 &&& (2147483647 : Int32)) % (7 : Int32))), .val (.ref (own_pick ((p0 &&& (2147483647 : Int32)) % (7 : Int32)) w0 w1 w2 w3 w4 w5 w6)), .val (.int (1 : Int32))]) rfl) ?_
    show Go p e below _ T1 (mkF m 24 #[.val (.int p0), .val (.int ((p0 &&& (2147483647 : Int32)) % (7 : Int32))), .val (.ref (own_pick ((p0 &&& (2147483647 : Int32)) % (7 : Int32)) w0 w1 w2 w3 w4 w5 w6)), .val (.int (1 : Int32))] [])
    refine Go.of (fun _ => XS.aloadN H2.here hx rfl (hb hby at_24) rfl rfl) ?_
    show Go p e below _ T1 (mkF m 25 #[.val (.int p0), .val (.int ((p0 &&& (2147483647 : Int32)) % (7 : Int32))), .val (.ref (own_pick ((p0 &&& (2147483647 : Int32)) % (7 : Int32)) w0 w1 w2 w3 w4 w5 w6)), .val (.int (1 : Int32))] [(.ref (own_pick ((p0 &&& (2147483647 : Int32)) % (7 : Int32)) w0 w1 w2 w3 w4 w5 w6))])
    refine own_virtualB H2 hx (y := (⟨"com/example/bindery/bindery/DeliveryProperty", "isDestination", "()Z"⟩ : MethodName)) (z := (⟨"com/example/bindery/bindery/DeliveryProperty", "isDestination", "()Z"⟩ : MethodName)) hown (ow hw 8 rfl) (ow hw 9 rfl) (ow hw 11 rfl) rfl (ow hw 10 rfl) (by decide) (fun v h' L => Fr Z.heap.size L ∧ Ext Z.heap h' ∧ (fun v => v = some (.int (own_isd fo fD))) v ∧ h0 = h') (fun vm0 hZ _ => own_backN (W := 0) (rm_isd l Z a0 hw EW.nil (own_pick ((p0 &&& (2147483647 : Int32)) % (7 : Int32)) w0 w1 w2 w3 w4 w5 w6) fo fD h0 H2.old FP SD) (ow hw 12 rfl) (ow hw 6 rfl) (by decide) (by decide) hZ) own_pure (fun _ hq => nomatch hq) EP rfl (by rw [hml]; rfl) (argsL := []) (rest := []) rfl (lenOf pd_1 rfl) rfl (by show 2 * 0 + _ ≤ _; exact Nat.le_of_eq rfl) (hb hby at_25) (by decide) (by decide) fun T8 h10 v13 L11 H9 q12 => ?_
    obtain ⟨-, -, v13e, h10e⟩ := q12
    subst h10e
    cases v13e
    show Go p e below _ T8 (mkF m 28 #[.val (.int p0), .val (.int ((p0 &&& (2147483647 : Int32)) % (7 : Int32))), .val (.ref (own_pick ((p0 &&& (2147483647 : Int32)) % (7 : Int32)) w0 w1 w2 w3 w4 w5 w6)), .val (.int (1 : Int32))] [(.int (own_isd fo fD))])
    rw [show own_isd fo fD = 1 from if_pos (hfo.mpr hc7)]
    show Go p e below _ T8 (mkF m 28 #[.val (.int p0), .val (.int ((p0 &&& (2147483647 : Int32)) % (7 : Int32))), .val (.ref (own_pick ((p0 &&& (2147483647 : Int32)) % (7 : Int32)) w0 w1 w2 w3 w4 w5 w6)), .val (.int (1 : Int32))] [(.int (1 : Int32))])
    refine Go.of (fun _ => XS.iloadN H9.here hx rfl (hb hby at_28) rfl) ?_
    show Go p e below _ T8 (mkF m 29 #[.val (.int p0), .val (.int ((p0 &&& (2147483647 : Int32)) % (7 : Int32))), .val (.ref (own_pick ((p0 &&& (2147483647 : Int32)) % (7 : Int32)) w0 w1 w2 w3 w4 w5 w6)), .val (.int (1 : Int32))] [(.int (1 : Int32)), (.int (1 : Int32))])
    refine Go.of (fun _ => XS.icmpNo H9.here hx rfl (hb hby at_29) rfl (teq (by decide : (1 : Int32) = (1 : Int32))).2) ?_
    show Go p e below _ T8 (mkF m 32 #[.val (.int p0), .val (.int ((p0 &&& (2147483647 : Int32)) % (7 : Int32))), .val (.ref (own_pick ((p0 &&& (2147483647 : Int32)) % (7 : Int32)) w0 w1 w2 w3 w4 w5 w6)), .val (.int (1 : Int32))] [])
    refine Go.of (fun _ => XS.iconst H9.here hx rfl (hb hby at_32)) ?_
    show Go p e below _ T8 (mkF m 33 #[.val (.int p0), .val (.int ((p0 &&& (2147483647 : Int32)) % (7 : Int32))), .val (.ref (own_pick ((p0 &&& (2147483647 : Int32)) % (7 : Int32)) w0 w1 w2 w3 w4 w5 w6)), .val (.int (1 : Int32))] [(.int (1 : Int32))])
    refine Go.of (fun _ => XS.goto H9.here hx rfl (pc0 := 33) (pc' := 37) rfl (hb hby at_33) (by decide) (by decide)) ?_
    show Go p e below _ T8 (mkF m 37 #[.val (.int p0), .val (.int ((p0 &&& (2147483647 : Int32)) % (7 : Int32))), .val (.ref (own_pick ((p0 &&& (2147483647 : Int32)) % (7 : Int32)) w0 w1 w2 w3 w4 w5 w6)), .val (.int (1 : Int32))] [(.int (1 : Int32))])
    exact own_retN H9 hx hlk (t := .boolean) hret (by simp) (hb hby at_37) rfl (by decide) (by decide)
  · skip
    refine Go.of (fun _ => XS.icmpYes H2.here hx rfl (pc0 := 15) (pc' := 22) rfl (hb hby at_15) rfl (flt hc7).2.1 (by decide) (by decide)) ?_
    show Go p e below _ T1 (mkF m 22 #[.val (.int p0), .val (.int ((p0 &&& (2147483647 : Int32)) % (7 : Int32))), .val (.ref (own_pick ((p0 &&& (2147483647 : Int32)) % (7 : Int32)) w0 w1 w2 w3 w4 w5 w6)), .unset] [])
    refine Go.of (fun _ => XS.iconst H2.here hx rfl (hb hby at_22)) ?_
    show Go p e below _ T1 (mkF m 23 #[.val (.int p0), .val (.int ((p0 &&& (2147483647 : Int32)) % (7 : Int32))), .val (.ref (own_pick ((p0 &&& (2147483647 : Int32)) % (7 : Int32)) w0 w1 w2 w3 w4 w5 w6)), .unset] [(.int (0 : Int32))])
    refine Go.of (fun _ => XS.istoreN H2.here hx rfl (hb hby at_23) rfl (l' := #[.val (.int p0), .val (.int ((p0 &&& (2147483647 : Int32)) % (7 : Int32))), .val (.ref (own_pick ((p0 &&& (2147483647 : Int32)) % (7 : Int32)) w0 w1 w2 w3 w4 w5 w6)), .val (.int (0 : Int32))]) rfl) ?_
    show Go p e below _ T1 (mkF m 24 #[.val (.int p0), .val (.int ((p0 &&& (2147483647 : Int32)) % (7 : Int32))), .val (.ref (own_pick ((p0 &&& (2147483647 : Int32)) % (7 : Int32)) w0 w1 w2 w3 w4 w5 w6)), .val (.int (0 : Int32))] [])
    refine Go.of (fun _ => XS.aloadN H2.here hx rfl (hb hby at_24) rfl rfl) ?_
    show Go p e below _ T1 (mkF m 25 #[.val (.int p0), .val (.int ((p0 &&& (2147483647 : Int32)) % (7 : Int32))), .val (.ref (own_pick ((p0 &&& (2147483647 : Int32)) % (7 : Int32)) w0 w1 w2 w3 w4 w5 w6)), .val (.int (0 : Int32))] [(.ref (own_pick ((p0 &&& (2147483647 : Int32)) % (7 : Int32)) w0 w1 w2 w3 w4 w5 w6))])
    refine own_virtualB H2 hx (y := (⟨"com/example/bindery/bindery/DeliveryProperty", "isDestination", "()Z"⟩ : MethodName)) (z := (⟨"com/example/bindery/bindery/DeliveryProperty", "isDestination", "()Z"⟩ : MethodName)) hown (ow hw 8 rfl) (ow hw 9 rfl) (ow hw 11 rfl) rfl (ow hw 10 rfl) (by decide) (fun v h' L => Fr Z.heap.size L ∧ Ext Z.heap h' ∧ (fun v => v = some (.int (own_isd fo fD))) v ∧ h0 = h') (fun vm0 hZ _ => own_backN (W := 0) (rm_isd l Z a0 hw EW.nil (own_pick ((p0 &&& (2147483647 : Int32)) % (7 : Int32)) w0 w1 w2 w3 w4 w5 w6) fo fD h0 H2.old FP SD) (ow hw 12 rfl) (ow hw 6 rfl) (by decide) (by decide) hZ) own_pure (fun _ hq => nomatch hq) EP rfl (by rw [hml]; rfl) (argsL := []) (rest := []) rfl (lenOf pd_1 rfl) rfl (by show 2 * 0 + _ ≤ _; exact Nat.le_of_eq rfl) (hb hby at_25) (by decide) (by decide) fun T14 h16 v19 L17 H15 q18 => ?_
    obtain ⟨-, -, v19e, h16e⟩ := q18
    subst h16e
    cases v19e
    show Go p e below _ T14 (mkF m 28 #[.val (.int p0), .val (.int ((p0 &&& (2147483647 : Int32)) % (7 : Int32))), .val (.ref (own_pick ((p0 &&& (2147483647 : Int32)) % (7 : Int32)) w0 w1 w2 w3 w4 w5 w6)), .val (.int (0 : Int32))] [(.int (own_isd fo fD))])
    rw [show own_isd fo fD = 0 from if_neg (fun q => hc7 (hfo.mp q))]
    show Go p e below _ T14 (mkF m 28 #[.val (.int p0), .val (.int ((p0 &&& (2147483647 : Int32)) % (7 : Int32))), .val (.ref (own_pick ((p0 &&& (2147483647 : Int32)) % (7 : Int32)) w0 w1 w2 w3 w4 w5 w6)), .val (.int (0 : Int32))] [(.int (0 : Int32))])
    refine Go.of (fun _ => XS.iloadN H15.here hx rfl (hb hby at_28) rfl) ?_
    show Go p e below _ T14 (mkF m 29 #[.val (.int p0), .val (.int ((p0 &&& (2147483647 : Int32)) % (7 : Int32))), .val (.ref (own_pick ((p0 &&& (2147483647 : Int32)) % (7 : Int32)) w0 w1 w2 w3 w4 w5 w6)), .val (.int (0 : Int32))] [(.int (0 : Int32)), (.int (0 : Int32))])
    refine Go.of (fun _ => XS.icmpNo H15.here hx rfl (hb hby at_29) rfl (teq (by decide : (0 : Int32) = (0 : Int32))).2) ?_
    show Go p e below _ T14 (mkF m 32 #[.val (.int p0), .val (.int ((p0 &&& (2147483647 : Int32)) % (7 : Int32))), .val (.ref (own_pick ((p0 &&& (2147483647 : Int32)) % (7 : Int32)) w0 w1 w2 w3 w4 w5 w6)), .val (.int (0 : Int32))] [])
    refine Go.of (fun _ => XS.iconst H15.here hx rfl (hb hby at_32)) ?_
    show Go p e below _ T14 (mkF m 33 #[.val (.int p0), .val (.int ((p0 &&& (2147483647 : Int32)) % (7 : Int32))), .val (.ref (own_pick ((p0 &&& (2147483647 : Int32)) % (7 : Int32)) w0 w1 w2 w3 w4 w5 w6)), .val (.int (0 : Int32))] [(.int (1 : Int32))])
    refine Go.of (fun _ => XS.goto H15.here hx rfl (pc0 := 33) (pc' := 37) rfl (hb hby at_33) (by decide) (by decide)) ?_
    show Go p e below _ T14 (mkF m 37 #[.val (.int p0), .val (.int ((p0 &&& (2147483647 : Int32)) % (7 : Int32))), .val (.ref (own_pick ((p0 &&& (2147483647 : Int32)) % (7 : Int32)) w0 w1 w2 w3 w4 w5 w6)), .val (.int (0 : Int32))] [(.int (1 : Int32))])
    exact own_retN H15 hx hlk (t := .boolean) hret (by simp) (hb hby at_37) rfl (by decide) (by decide)
set_option maxRecDepth 65536 in
set_option maxHeartbeats 40000000 in
theorem comes_1 {Post : Tables → Env → Array Value → State → Outcome → State → Prop} (hpost : ∀ tb e args s v u, (limb_1_1.after args s (.returned v) u = true ∧ limb_1_2.after args s (.returned v) u = true ∧ True) → FrameEnd s (.returned v) u (Jvm.fieldLocs frame_1_writes args s ++ Jvm.arrayLocs frame_1_arrays args s ++ Jvm.staticLocs frame_1_statics s) 0 0 → Post tb e args s (.returned v) u) :
    ArmFor flags0 classFile x code maxLocals ret World_1 tables_1 room_1 Calls_1 rest_1 Pre_1 Post := by
  intro l hfl _ _ p e ha hc hk s m args below hf hA hF happ hP
  obtain ⟨hcalls, hrest, hpre⟩ := hP
  obtain ⟨-, -, -, hnamed, -, -, -, hat⟩ := (Spec.applies_iff hf).mp happ
  obtain ⟨hg, hn⟩ := and_e (Cond.before_iff.mp (show (Jvm.Cond.and given_1 narrow_1).before args s = true from hpre))
  obtain ⟨g1, g2⟩ := and_e hg
  obtain ⟨w0, rfl⟩ : ∃ w0 : Value, args = #[w0] := by
    have hs : args.size = 1 := by simpa [Cond.value, given_1] using g1
    obtain ⟨L⟩ := args
    match L, hs with
    | [w0], _ => exact ⟨w0, rfl⟩
  have hw := fun d (hd : d ∈ tables_1) => atoms_spec (ws := Jvm.Cond.code x code maxLocals ret :: tables_1) hat d (List.mem_cons_of_mem _ hd)
  obtain ⟨i0, ei0⟩ := is_v g2
  obtain rfl : w0 = (.int i0) := Option.some.inj ei0
  obtain ⟨x1, y1⟩ := and_e hn
  obtain ⟨x2, y2⟩ := and_e y1
  obtain ⟨x3, y3⟩ := and_e y2
  obtain ⟨x4, y4⟩ := and_e y3
  obtain ⟨x5, y5⟩ := and_e y4
  obtain ⟨x6, y6⟩ := and_e y5
  obtain ⟨x7, y7⟩ := and_e y6
  obtain ⟨x8, y8⟩ := and_e y7
  obtain ⟨x9, y9⟩ := and_e y8
  obtain ⟨x10, y10⟩ := and_e y9
  obtain ⟨x11, y11⟩ := and_e y10
  obtain ⟨x12, y12⟩ := and_e y11
  obtain ⟨x13, y13⟩ := and_e y12
  obtain ⟨x14, y14⟩ := and_e y13
  obtain ⟨x15, y15⟩ := and_e y14
  obtain ⟨x16, y16⟩ := and_e y15
  obtain ⟨x17, y17⟩ := and_e y16
  obtain ⟨x18, y18⟩ := and_e y17
  obtain ⟨x19, x20⟩ := and_e y18
  obtain ⟨fD, eD⟩ := exa_v x2
  obtain ⟨fU, eU⟩ := exa_v x7
  obtain ⟨fN, eN⟩ := exa_v x12
  obtain ⟨a0, e0⟩ := exa_v x1
  have S0 := Sta.start e0 (Or.inr ⟨(ow hw 6 rfl), (ow hw 7 rfl)⟩)
  have E0 := Exa.start e0 x1
  have F0 := own_fldR e0 eD x3
  obtain ⟨a1, e1⟩ := exa_v x19
  have S1 := Sta.start e1 (Or.inr ⟨(ow hw 6 rfl), (ow hw 31 rfl)⟩)
  have E1 := Exa.start e1 x19
  have F1 := own_fldR e1 eD x20
  obtain ⟨a2, e2⟩ := exa_v x17
  have S2 := Sta.start e2 (Or.inr ⟨(ow hw 6 rfl), (ow hw 29 rfl)⟩)
  have E2 := Exa.start e2 x17
  have F2 := own_fldR e2 eD x18
  obtain ⟨a3, e3⟩ := exa_v x4
  have S3 := Sta.start e3 (Or.inr ⟨(ow hw 6 rfl), (ow hw 19 rfl)⟩)
  have E3 := Exa.start e3 x4
  have F3 := own_fldR e3 eD x5
  obtain ⟨a4, e4⟩ := exa_v x15
  have S4 := Sta.start e4 (Or.inr ⟨(ow hw 6 rfl), (ow hw 27 rfl)⟩)
  have E4 := Exa.start e4 x15
  have F4 := own_fldR e4 eU x16
  obtain ⟨a5, e5⟩ := exa_v x6
  have S5 := Sta.start e5 (Or.inr ⟨(ow hw 6 rfl), (ow hw 21 rfl)⟩)
  have E5 := Exa.start e5 x6
  have F5 := own_fldR e5 eU x8
  obtain ⟨a6, e6⟩ := exa_v x11
  have S6 := Sta.start e6 (Or.inr ⟨(ow hw 6 rfl), (ow hw 24 rfl)⟩)
  have E6 := Exa.start e6 x11
  have F6 := own_fldR e6 eN x13
  have SD := Sta.start eD (Or.inr ⟨(ow hw 15 rfl), (ow hw 16 rfl)⟩)
  have nU : fU ≠ fD := Fld.ne (own_fldI eU x9) (own_fldI eD x10) (by decide)
  have nN : fN ≠ fD := Fld.ne (own_fldI eN x14) (own_fldI eD x10) (by decide)
  obtain ⟨n, o, h1, h2, h3, _, L, rfl, ⟨N, -, rfl⟩, -, hq⟩ := rm_law l s _ hw EW.nil i0 a0 a1 a2 a3 a4 a5 a6 fD fU fN s.heap ⟨Nat.le_refl _, fun _ _ q => q⟩ S0 S1 S2 S3 S4 S5 S6 E0 E1 E2 E3 E4 E5 E6 F0 F1 F2 F3 F4 F5 F6 SD nU nN p e ha hc hk s m _ below hf ((Spec.applies_iff_loose hf).mp happ).1 ⟨rfl, State.Warmed39.refl s, rfl, (fun _ hq => nomatch hq), (fun _ hq => nomatch hq)⟩ trivial
  have hq : FrameEnd s _ _ L room_1.cells room_1.slots := hq
  refine ⟨n, _, h1, h2, h3, hpost _ _ _ _ _ _ ⟨Cond.after_iff.mpr rfl, Cond.after_iff.mpr (eq_i res_at (Term.int_eval (1)) rfl), trivial⟩ ⟨hq.1, hq.2.1, (hq.2.2.sift fun y hy => Or.inr (N y hy)).mono (by decide) (by decide)⟩⟩
theorem main_1_1 : Claimed_1_1 := comes_1 fun _ _ _ _ _ _ h hF => ⟨h.1, hF⟩
theorem main_1_2 : Claimed_1_2 := comes_1 fun _ _ _ _ _ _ h hF => ⟨h.2.1, hF⟩
end Jvm.Pilot.@@N@@
namespace Jvm.Pilot.@@N@@
open Jvm Jvm.ClassFile Sem Op Lib Jvm.Free Jvm.Stand Jvm.Pilot.@@N@@.Jvm.D
/-! MADE BY PROGRAM (witnessworld.py) out of the Statement's table words and the real class files: 13 classes; the members and pool entries that the words name. The judged class is class 1, her method 2. -/
namespace start1
open Jvm.ClassFile
def u (s : String) : CpInfo := .utf8 (stringToUtf16 s)
/-- a pool by its gaps: so many unusable entries, then the entry; so many at the end -/
def gap : Nat → List CpInfo → List CpInfo
  | 0, r => r
  | n + 1, r => .unusable :: gap n r
def poolList (es : List (Nat × CpInfo)) (last : Nat) : List CpInfo := es.foldr (fun e r => gap e.1 (e.2 :: r)) (gap last [])
def pool (es : List (Nat × CpInfo)) (last : Nat) : Array CpInfo := ⟨poolList es last⟩
def fileOf (pool : Array CpInfo) (this : Nat) (attrs : Array Attribute := #[]) (ms : Array MethodInfo := #[]) (fl : Nat := 33) (sup : Nat := 0) (ifs : Array Nat := #[]) (fds : Array FieldInfo := #[]) : ClassFile where
  minorVersion := 0
  majorVersion := 65
  constantPool := pool
  accessFlags := fl
  thisClass := this
  superClass := sup
  interfaces := ifs
  fields := fds
  methods := ms
  attributes := attrs
def plain (name : String) (sup : Option ClassId) : Class where
  name := name
  kind := .ordinary
  loader := none
  accessFlags := 33
  super := sup
  interfaces := #[]
  cf := none
  fields := #[]
  methods := #[]
  instanceTypes := #[]
  staticTypes := #[]
  resolved := #[]
  callSites := []
  init := .initialized
  statics := none
  mirror := none

def pool0 : Array CpInfo := pool [(5, u "<init>"), (0, u "()V"), (1, .class_ 10), (1, u "java/lang/Object")] 113

def k0m0 : Method := { name := "<init>", desc := "()V", sig := { parameters := [], returnType := none }, accessFlags := 1, code := none }
/-- java/lang/Object -/
def k0 : Class := { plain "java/lang/Object" none with
  accessFlags := 33
  interfaces := #[]
  cf := some (fileOf pool0 8 #[] #[{ accessFlags := 1, nameIndex := 5, descriptorIndex := 6, attributes := #[] }] 33 0 #[] #[])
  fields := #[]
  methods := #[k0m0]
  instanceTypes := #[]
  staticTypes := #[]
  resolved := Array.replicate 124 none
  statics := none }

def pool1 : Array CpInfo := pool [(2, .class_ 4), (1, u "java/lang/Object"), (0, u "<init>"), (0, u "()V"), (0, .fieldref 8 9), (0, .class_ 10), (0, .nameAndType 11 12), (0, u "com/example/bindery/bindery/DeliveryProperty"), (0, u "MESSAGE_ORIGINATOR"), (0, u "Lcom/example/bindery/bindery/DeliveryProperty;"), (0, .fieldref 8 14), (0, .nameAndType 15 12), (0, u "MESSAGE_DESTINATION"), (0, .fieldref 8 17), (0, .nameAndType 18 12), (0, u "REPLY_DESTINATION"), (0, .fieldref 8 20), (0, .nameAndType 21 12), (0, u "FAULT_DESTINATION"), (0, .fieldref 8 23), (0, .nameAndType 24 12), (0, u "MESSAGE_ID"), (0, .fieldref 8 26), (0, .nameAndType 27 12), (0, u "MESSAGE_REFERENCE"), (0, .fieldref 8 29), (0, .nameAndType 30 12), (0, u "OPERATION_NAME"), (0, .integer 2147483647), (0, .methodref 33 34), (0, .class_ 35), (0, .nameAndType 36 37), (0, u "com/example/bindery/bindery/DeliveryPropertyIsDestinationPinLaw"), (0, u "pick"), (0, u "(I)Lcom/example/bindery/bindery/DeliveryProperty;"), (0, .methodref 8 39), (0, .nameAndType 40 41), (0, u "isDestination"), (0, u "()Z"), (3, u "law"), (0, u "(I)Z")] 2

def k1m0 : Method := { name := "<init>", desc := "()V", sig := { parameters := [], returnType := none }, accessFlags := 2, code := none }
def k1c1 : Code := { maxStack := 2, maxLocals := 1, code := method_2_code, exceptionTable := #[], attributes := #[] }
def k1m1 : Method := { name := "pick", desc := "(I)Lcom/example/bindery/bindery/DeliveryProperty;", sig := { parameters := [.int], returnType := some (.object "com/example/bindery/bindery/DeliveryProperty") }, accessFlags := 10, code := some k1c1 }
def k1c2 : Code := { maxStack := 2, maxLocals := 4, code := code, exceptionTable := #[], attributes := #[] }
def k1m2 : Method := { name := "law", desc := "(I)Z", sig := { parameters := [.int], returnType := some .boolean }, accessFlags := 9, code := some k1c2 }
/-- com/example/bindery/bindery/DeliveryPropertyIsDestinationPinLaw -/
def k1 : Class := { plain "com/example/bindery/bindery/DeliveryPropertyIsDestinationPinLaw" (some 0) with
  accessFlags := 49
  interfaces := #[]
  cf := some (fileOf pool1 33 #[] #[{ accessFlags := 2, nameIndex := 5, descriptorIndex := 6, attributes := #[] }, { accessFlags := 10, nameIndex := 36, descriptorIndex := 37, attributes := #[] }, { accessFlags := 9, nameIndex := 45, descriptorIndex := 46, attributes := #[] }] 49 2 #[] #[])
  fields := #[]
  methods := #[k1m0, k1m1, k1m2]
  instanceTypes := #[]
  staticTypes := #[]
  resolved := Array.replicate 49 none
  statics := none }

def pool2 : Array CpInfo := pool [(1, .class_ 2), (0, u "java/lang/constant/Constable"), (0, .class_ 4), (0, u "java/lang/Object")] 6

/-- java/lang/constant/Constable -/
def k2 : Class := { plain "java/lang/constant/Constable" (some 0) with
  accessFlags := 1537
  interfaces := #[]
  cf := some (fileOf pool2 1 #[] #[] 1537 3 #[] #[])
  fields := #[]
  methods := #[]
  instanceTypes := #[]
  staticTypes := #[]
  resolved := Array.replicate 11 none
  statics := none }

def pool3 : Array CpInfo := pool [(1, .class_ 2), (0, u "java/lang/Comparable"), (0, .class_ 4), (0, u "java/lang/Object")] 7

/-- java/lang/Comparable -/
def k3 : Class := { plain "java/lang/Comparable" (some 0) with
  accessFlags := 1537
  interfaces := #[]
  cf := some (fileOf pool3 1 #[] #[] 1537 3 #[] #[])
  fields := #[]
  methods := #[]
  instanceTypes := #[]
  staticTypes := #[]
  resolved := Array.replicate 12 none
  statics := none }

def pool4 : Array CpInfo := pool [(1, .class_ 2), (0, u "java/io/Serializable"), (0, .class_ 4), (0, u "java/lang/Object")] 2

/-- java/io/Serializable -/
def k4 : Class := { plain "java/io/Serializable" (some 0) with
  accessFlags := 1537
  interfaces := #[]
  cf := some (fileOf pool4 1 #[] #[] 1537 3 #[] #[])
  fields := #[]
  methods := #[]
  instanceTypes := #[]
  staticTypes := #[]
  resolved := Array.replicate 7 none
  statics := none }

def pool5 : Array CpInfo := pool [(2, .class_ 4), (1, u "java/lang/Enum"), (0, u "name"), (0, u "Ljava/lang/String;"), (2, u "ordinal"), (0, u "I"), (1, .class_ 14), (1, u "java/lang/Object"), (4, u "hash"), (86, .class_ 108), (1, u "java/lang/Enum$EnumDesc"), (2, .class_ 112), (0, u "java/lang/constant/Constable"), (0, .class_ 114), (0, u "java/lang/Comparable"), (0, .class_ 116), (0, u "java/io/Serializable")] 87

/-- java/lang/Enum -/
def k5 : Class := { plain "java/lang/Enum" (some 0) with
  accessFlags := 1057
  interfaces := #[2, 3, 4]
  cf := some (fileOf pool5 2 #[.nestMembers #[106]] #[] 1057 12 #[111, 113, 115] #[{ accessFlags := 18, nameIndex := 5, descriptorIndex := 6, attributes := #[] }, { accessFlags := 18, nameIndex := 9, descriptorIndex := 10, attributes := #[] }, { accessFlags := 2, nameIndex := 19, descriptorIndex := 10, attributes := #[] }])
  fields := #[{ name := "name", type := (.object "java/lang/String"), accessFlags := 18, slot := 0, constantValue := 0 }, { name := "ordinal", type := .int, accessFlags := 18, slot := 1, constantValue := 0 }, { name := "hash", type := .int, accessFlags := 2, slot := 2, constantValue := 0 }]
  methods := #[]
  instanceTypes := #[(.object "java/lang/String"), .int, .int]
  staticTypes := #[]
  resolved := Array.replicate 204 none
  statics := none }

def pool6 : Array CpInfo := pool [(1, .class_ 2), (0, u "com/example/bindery/bindery/DeliveryProperty"), (2, u "MESSAGE_ORIGINATOR"), (0, u "Lcom/example/bindery/bindery/DeliveryProperty;"), (2, u "MESSAGE_DESTINATION"), (2, u "REPLY_DESTINATION"), (2, u "FAULT_DESTINATION"), (2, u "MESSAGE_ID"), (2, u "MESSAGE_REFERENCE"), (2, u "OPERATION_NAME"), (2, u "$VALUES"), (0, u "[Lcom/example/bindery/bindery/DeliveryProperty;"), (6, .class_ 37), (1, u "java/lang/Enum"), (8, u "localName"), (0, u "Ljava/lang/String;"), (0, .fieldref 1 49), (0, .nameAndType 50 51), (0, u "form"), (0, u "Lcom/example/bindery/bindery/DeliveryProperty$Form;"), (2, u "requiredInRequest"), (0, u "Z"), (0, .fieldref 57 58), (0, .class_ 59), (0, .nameAndType 60 51), (0, u "com/example/bindery/bindery/DeliveryProperty$Form"), (0, u "DESTINATION"), (39, u "()Z"), (64, u "URI_CHILD"), (10, u "isDestination")] 15

def k6c0 : Code := { maxStack := 2, maxLocals := 1, code := prog_3_method_5_code, exceptionTable := #[], attributes := #[] }
def k6m0 : Method := { name := "isDestination", desc := "()Z", sig := { parameters := [], returnType := some .boolean }, accessFlags := 0, code := some k6c0 }
/-- com/example/bindery/bindery/DeliveryProperty -/
def k6 : Class := { plain "com/example/bindery/bindery/DeliveryProperty" (some 5) with
  accessFlags := 16432
  interfaces := #[]
  cf := some (fileOf pool6 1 #[.nestMembers #[57]] #[{ accessFlags := 0, nameIndex := 176, descriptorIndex := 100, attributes := #[] }] 16432 35 #[] #[{ accessFlags := 16409, nameIndex := 5, descriptorIndex := 6, attributes := #[] }, { accessFlags := 16409, nameIndex := 9, descriptorIndex := 6, attributes := #[] }, { accessFlags := 16409, nameIndex := 12, descriptorIndex := 6, attributes := #[] }, { accessFlags := 16409, nameIndex := 15, descriptorIndex := 6, attributes := #[] }, { accessFlags := 16409, nameIndex := 18, descriptorIndex := 6, attributes := #[] }, { accessFlags := 16409, nameIndex := 21, descriptorIndex := 6, attributes := #[] }, { accessFlags := 16409, nameIndex := 24, descriptorIndex := 6, attributes := #[] }, { accessFlags := 24, nameIndex := 165, descriptorIndex := 47, attributes := #[] }, { accessFlags := 18, nameIndex := 46, descriptorIndex := 47, attributes := #[] }, { accessFlags := 18, nameIndex := 50, descriptorIndex := 51, attributes := #[] }, { accessFlags := 18, nameIndex := 54, descriptorIndex := 55, attributes := #[] }, { accessFlags := 4122, nameIndex := 27, descriptorIndex := 28, attributes := #[] }])
  fields := #[{ name := "MESSAGE_ORIGINATOR", type := (.object "com/example/bindery/bindery/DeliveryProperty"), accessFlags := 16409, slot := 0, constantValue := 0 }, { name := "MESSAGE_DESTINATION", type := (.object "com/example/bindery/bindery/DeliveryProperty"), accessFlags := 16409, slot := 1, constantValue := 0 }, { name := "REPLY_DESTINATION", type := (.object "com/example/bindery/bindery/DeliveryProperty"), accessFlags := 16409, slot := 2, constantValue := 0 }, { name := "FAULT_DESTINATION", type := (.object "com/example/bindery/bindery/DeliveryProperty"), accessFlags := 16409, slot := 3, constantValue := 0 }, { name := "MESSAGE_ID", type := (.object "com/example/bindery/bindery/DeliveryProperty"), accessFlags := 16409, slot := 4, constantValue := 0 }, { name := "MESSAGE_REFERENCE", type := (.object "com/example/bindery/bindery/DeliveryProperty"), accessFlags := 16409, slot := 5, constantValue := 0 }, { name := "OPERATION_NAME", type := (.object "com/example/bindery/bindery/DeliveryProperty"), accessFlags := 16409, slot := 6, constantValue := 0 }, { name := "URI_CHILD", type := (.object "java/lang/String"), accessFlags := 24, slot := 7, constantValue := 0 }, { name := "localName", type := (.object "java/lang/String"), accessFlags := 18, slot := 3, constantValue := 0 }, { name := "form", type := (.object "com/example/bindery/bindery/DeliveryProperty$Form"), accessFlags := 18, slot := 4, constantValue := 0 }, { name := "requiredInRequest", type := .boolean, accessFlags := 18, slot := 5, constantValue := 0 }, { name := "$VALUES", type := (.array (.object "com/example/bindery/bindery/DeliveryProperty")), accessFlags := 4122, slot := 8, constantValue := 0 }]
  methods := #[k6m0]
  instanceTypes := #[(.object "java/lang/String"), .int, .int, (.object "java/lang/String"), (.object "com/example/bindery/bindery/DeliveryProperty$Form"), .boolean]
  staticTypes := #[(.object "com/example/bindery/bindery/DeliveryProperty"), (.object "com/example/bindery/bindery/DeliveryProperty"), (.object "com/example/bindery/bindery/DeliveryProperty"), (.object "com/example/bindery/bindery/DeliveryProperty"), (.object "com/example/bindery/bindery/DeliveryProperty"), (.object "com/example/bindery/bindery/DeliveryProperty"), (.object "com/example/bindery/bindery/DeliveryProperty"), (.object "java/lang/String"), (.array (.object "com/example/bindery/bindery/DeliveryProperty"))]
  resolved := Array.replicate 192 none
  statics := some 0 }

def pool7 : Array CpInfo := pool [(1, .class_ 2), (0, u "com/example/bindery/bindery/DeliveryProperty$Form"), (2, u "DESTINATION"), (0, u "Lcom/example/bindery/bindery/DeliveryProperty$Form;"), (2, u "URI"), (2, u "NCNAME"), (2, u "$VALUES"), (0, u "[Lcom/example/bindery/bindery/DeliveryProperty$Form;"), (6, .class_ 25), (1, u "java/lang/Enum"), (26, .class_ 53), (0, u "com/example/bindery/bindery/DeliveryProperty")] 2

/-- com/example/bindery/bindery/DeliveryProperty$Form -/
def k7 : Class := { plain "com/example/bindery/bindery/DeliveryProperty$Form" (some 5) with
  accessFlags := 16432
  interfaces := #[]
  cf := some (fileOf pool7 1 #[.nestHost 52] #[] 16432 23 #[] #[{ accessFlags := 16409, nameIndex := 5, descriptorIndex := 6, attributes := #[] }, { accessFlags := 16409, nameIndex := 9, descriptorIndex := 6, attributes := #[] }, { accessFlags := 16409, nameIndex := 12, descriptorIndex := 6, attributes := #[] }, { accessFlags := 4122, nameIndex := 15, descriptorIndex := 16, attributes := #[] }])
  fields := #[{ name := "DESTINATION", type := (.object "com/example/bindery/bindery/DeliveryProperty$Form"), accessFlags := 16409, slot := 0, constantValue := 0 }, { name := "URI", type := (.object "com/example/bindery/bindery/DeliveryProperty$Form"), accessFlags := 16409, slot := 1, constantValue := 0 }, { name := "NCNAME", type := (.object "com/example/bindery/bindery/DeliveryProperty$Form"), accessFlags := 16409, slot := 2, constantValue := 0 }, { name := "$VALUES", type := (.array (.object "com/example/bindery/bindery/DeliveryProperty$Form")), accessFlags := 4122, slot := 3, constantValue := 0 }]
  methods := #[]
  instanceTypes := #[(.object "java/lang/String"), .int, .int]
  staticTypes := #[(.object "com/example/bindery/bindery/DeliveryProperty$Form"), (.object "com/example/bindery/bindery/DeliveryProperty$Form"), (.object "com/example/bindery/bindery/DeliveryProperty$Form"), (.array (.object "com/example/bindery/bindery/DeliveryProperty$Form"))]
  resolved := Array.replicate 56 none
  statics := some 1 }

def pool8 : Array CpInfo := pool [(1, u "java/lang/Cloneable"), (0, .class_ 1), (0, u "java/lang/Object"), (0, .class_ 3)] 3

/-- java/lang/Cloneable -/
def k8 : Class := { plain "java/lang/Cloneable" (some 0) with
  accessFlags := 1537
  interfaces := #[]
  cf := some (fileOf pool8 2 #[] #[] 1537 4 #[] #[])
  fields := #[]
  methods := #[]
  instanceTypes := #[]
  staticTypes := #[]
  resolved := Array.replicate 8 none
  statics := none }

/-- the primitive byte -/
def k9 : Class := { plain "byte" none with kind := .primitive 'B', accessFlags := 0x411 }
/-- [B -/
def k10 : Class := { plain "[B" (some 0) with kind := .array 9 .byte, interfaces := #[8, 4], accessFlags := 1041 }

/-- the primitive int -/
def k11 : Class := { plain "int" none with kind := .primitive 'I', accessFlags := 0x411 }
/-- [I -/
def k12 : Class := { plain "[I" (some 0) with kind := .array 11 .int, interfaces := #[8, 4], accessFlags := 1041 }

def heap : Heap := #[{ cls := 6, slots := #[.ref 5, .ref 6, .ref 7, .ref 8, .ref 9, .ref 10, .ref 11, .null, .null], vm := .statics 6 },
  { cls := 7, slots := #[.ref 2, .ref 3, .ref 4, .null], vm := .statics 7 },
  { cls := 7, slots := #[.null, .int 0, .int 0], vm := .none },
  { cls := 7, slots := #[.null, .int 1, .int 0], vm := .none },
  { cls := 7, slots := #[.null, .int 2, .int 0], vm := .none },
  { cls := 6, slots := #[.null, .int 0, .int 0, .null, .ref 2, .int 0], vm := .none },
  { cls := 6, slots := #[.null, .int 1, .int 0, .null, .ref 2, .int 0], vm := .none },
  { cls := 6, slots := #[.null, .int 2, .int 0, .null, .ref 2, .int 0], vm := .none },
  { cls := 6, slots := #[.null, .int 3, .int 0, .null, .ref 2, .int 0], vm := .none },
  { cls := 6, slots := #[.null, .int 4, .int 0, .null, .ref 3, .int 0], vm := .none },
  { cls := 6, slots := #[.null, .int 5, .int 0, .null, .ref 3, .int 0], vm := .none },
  { cls := 6, slots := #[.null, .int 6, .int 0, .null, .ref 4, .int 0], vm := .none }]
def classes : Array Class := #[k0, k1, k2, k3, k4, k5, k6, k7, k8, k9, k10, k11, k12]
def interned : List (Array UInt16 × Addr) := []
def slotsUsed : Nat := 64
def theMethod : MethodId := ⟨1, 2⟩
def args0 : Array Value := #[.int 5]
def aboutOver (below : List Frame) : State where
  vm := { classes := classes, interned := interned.toArray }
  heap := heap
  slotsUsed := slotsUsed
  threads := #[{ frames := .invoking theMethod args0 :: below }]
def below0 : List Frame := [.native { method := ⟨0, 0⟩, args := #[] }]
def about1 : State := aboutOver below0
def p0 : Program := .bare "" "" ""
def e0 : Env := launch0.env 0 0 0
theorem w_frames : about1.frames = Frame.invoking theMethod args0 :: below0 := rfl
set_option maxRecDepth 65536 in
theorem w_args : argsFit about1.vm theMethod args0 = true := by decide +kernel
set_option maxRecDepth 65536 in
theorem w_heap : heapFits about1 = true := by decide +kernel
set_option maxRecDepth 65536 in
theorem w_runnable : about1.curStatus? = some .runnable := by decide +kernel
set_option maxRecDepth 65536 in
theorem w_alone : about1.alone = true := by decide +kernel
set_option maxRecDepth 65536 in
theorem w_named : about1.methodNamed? x = some theMethod := by decide +kernel
set_option maxRecDepth 65536 in
theorem w_hears : about1.hears theMethod below0 = true := by decide +kernel
set_option maxRecDepth 65536 in
theorem w_ripe : about1.ripe theMethod args0 below0 = true := by decide +kernel
theorem w_running : about1.status = .running := rfl
set_option maxRecDepth 65536 in
theorem w_room : about1.hasRoom e0.platform room_1 = true :=
  launch0.hasRoom_least _ room_1 (by decide +kernel) (by decide +kernel) (by decide +kernel) (by decide +kernel) (by decide +kernel) (by decide +kernel)
theorem allAtoms_all (ts : List Jvm.Cond) (a : Array Jvm.Value) (st : Jvm.State) : (allAtoms ts).before a st = ts.all (fun c => c.before a st) := by
  induction ts with
  | nil => rfl
  | cons c t ih =>
    show (Jvm.Cond.and c (allAtoms t)).before a st = _
    rw [Jvm.Cond.before_and, ih, List.all_cons]
def words1 : List Jvm.Cond := Jvm.Cond.code x code maxLocals ret :: tables_1
/-- a 'code' word, met by the world's own term for the bytes: nothing is compared byte by byte -/
theorem code_word {y : MethodName} {bytes : ByteArray} {mx : Nat} {rt : Option FieldType} {a : Array Value} {s : State} {m : MethodId} {meth : Method} {c : Code} (h1 : s.methodNamed? y = some m) (h2 : s.vm.method? m = some meth) (h3 : meth.code = some c) (h4 : c.code = bytes)
    (h5 : (c.maxLocals == mx && c.exceptionTable.isEmpty && decide (c.maxStack ≤ mostOperands) && decide (meth.sig.returnType = rt) && !meth.locks && decide (parseMethodDescriptor y.desc = some meth.sig)) = true) : (Jvm.Cond.code y bytes mx rt).before a s = true := by
  simp only [Bool.and_eq_true, beq_iff_eq, Bool.not_eq_true', decide_eq_true_eq] at h5
  obtain ⟨⟨⟨⟨⟨g1, g2⟩, g3⟩, g4⟩, g5⟩, g6⟩ := h5
  simp [Cond.before, Cond.holds, Cond.value, h1, h2, h3, h4, g1, g2, g3, g4, g5, g6]
def isCode : Jvm.Cond → Bool
  | .code _ _ _ _ => true
  | _ => false
theorem all_split {L : List Jvm.Cond} {P : Jvm.Cond → Bool} (h1 : L.all (fun c => isCode c || P c) = true) (h2 : ∀ c ∈ L.filter isCode, P c = true) : L.all P = true := by
  refine List.all_eq_true.mpr fun c hc => ?_
  have h := List.all_eq_true.mp h1 c hc
  rcases Bool.eq_false_or_eq_true (isCode c) with hi | hi
  · exact h2 c (List.mem_filter.mpr ⟨hc, hi⟩)
  · simpa [hi] using h
set_option maxRecDepth 65536 in
theorem w_c0 : (Jvm.Cond.code x code maxLocals ret).before args0 about1 = true := code_word (m := ⟨1, 2⟩) (meth := k1m2) (c := k1c2) (by decide +kernel) rfl rfl rfl (by decide +kernel)
set_option maxRecDepth 65536 in
theorem w_c1 : (Jvm.Cond.code ({ cls := "com/example/bindery/bindery/DeliveryPropertyIsDestinationPinLaw", name := "pick", desc := "(I)Lcom/example/bindery/bindery/DeliveryProperty;" } : Jvm.MethodName) method_2_code (1 : Nat) (Option.some (Jvm.ClassFile.FieldType.object "com/example/bindery/bindery/DeliveryProperty"))).before args0 about1 = true := code_word (m := ⟨1, 1⟩) (meth := k1m1) (c := k1c1) (by decide +kernel) rfl rfl rfl (by decide +kernel)
set_option maxRecDepth 65536 in
theorem w_c2 : (Jvm.Cond.code ({ cls := "com/example/bindery/bindery/DeliveryProperty", name := "isDestination", desc := "()Z" } : Jvm.MethodName) prog_3_method_5_code (1 : Nat) (Option.some Jvm.ClassFile.FieldType.boolean)).before args0 about1 = true := code_word (m := ⟨6, 0⟩) (meth := k6m0) (c := k6c0) (by decide +kernel) rfl rfl rfl (by decide +kernel)
def codes1 : List Jvm.Cond := [Jvm.Cond.code x code maxLocals ret, Jvm.Cond.code ({ cls := "com/example/bindery/bindery/DeliveryPropertyIsDestinationPinLaw", name := "pick", desc := "(I)Lcom/example/bindery/bindery/DeliveryProperty;" } : Jvm.MethodName) method_2_code (1 : Nat) (Option.some (Jvm.ClassFile.FieldType.object "com/example/bindery/bindery/DeliveryProperty")), Jvm.Cond.code ({ cls := "com/example/bindery/bindery/DeliveryProperty", name := "isDestination", desc := "()Z" } : Jvm.MethodName) prog_3_method_5_code (1 : Nat) (Option.some Jvm.ClassFile.FieldType.boolean)]
set_option maxRecDepth 65536 in
theorem codes_eq : words1.filter isCode = codes1 := rfl
theorem w_codes : ∀ c ∈ words1.filter isCode, c.before args0 about1 = true := by
  rw [codes_eq]
  intro c hc
  simp only [codes1, List.mem_cons, List.not_mem_nil, or_false] at hc
  rcases hc with rfl | rfl | rfl
  · exact w_c0
  · exact w_c1
  · exact w_c2
set_option maxRecDepth 65536 in
theorem w_t1 : (words1.take 24).all (fun c => isCode c || c.before args0 about1) = true := by decide +kernel
set_option maxRecDepth 65536 in
theorem w_t2 : (words1.drop 24).all (fun c => isCode c || c.before args0 about1) = true := by decide +kernel
theorem w_tables : (allAtoms (Jvm.Cond.code x code maxLocals ret :: tables_1)).before args0 about1 = true := by
  rw [allAtoms_all]
  show words1.all (fun c => c.before args0 about1) = true
  refine all_split ?_ w_codes
  rw [← List.take_append_drop 24 words1, List.all_append, w_t1, w_t2]
  rfl
set_option maxRecDepth 65536 in
theorem w_case : (Jvm.Cond.and given_1 narrow_1).before args0 about1 = true := by decide +kernel
theorem w_applies : (headSpec (Jvm.Cond.code x code maxLocals ret :: tables_1) room_1).applies x e0.platform about1 = true :=
  (Spec.applies_iff w_frames).mpr ⟨w_running, w_runnable, w_alone, w_named, w_hears, w_ripe, w_room, w_tables⟩
theorem atStart : AtStart classFile x code maxLocals ret World_1 tables_1 room_1 Calls_1 rest_1 Pre_1 launch0 p0 e0 about1 theMethod args0 below0 :=
  ⟨lists_1, trivial, launch0.admits_env _ _ _, launch0.least_env, fairChoices_fair.cas, fairChoices_fair.clock, w_frames, w_args, w_heap, w_applies, trivial, trivial, w_case⟩
end start1
theorem witness_1 : WitnessClaimed_1 := ⟨start1.p0, start1.e0, start1.about1, start1.theMethod, start1.args0, start1.below0, start1.atStart⟩
end Jvm.Pilot.@@N@@
