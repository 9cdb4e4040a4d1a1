import JvmDerived
import JvmDerived.Pilot.@@N@@Statement
import JvmDerived.Pilot.@@N@@Code
set_option linter.unusedVariables false
set_option linter.unusedSimpArgs false
namespace Jvm.Pilot.@@N@@
open Jvm Jvm.ClassFile Sem Op Lib Bundle Jvm.Free Jvm.Stand Jvm.LawKit Jvm.RoadKit
/-! ## The walk's own layer: where a run stands (Hr), a method's contract (Ct), one lemma a step. -/
/-- the fixed part of one walk: program, launch, environment, start, method, arguments, frames below, method record, code, the state where the steps begin, the cells that it may write, narrow tables?, known frames? -/
abbrev Cx : Type := Program × Launch × Env × State × MethodId × Array Value × List Frame × Method × Code × State × List Addr × Bool × Bool
abbrev Cx.p (x : Cx) : Program := x.1
abbrev Cx.l (x : Cx) : Launch := x.2.1
abbrev Cx.e (x : Cx) : Env := x.2.2.1
abbrev Cx.s (x : Cx) : State := x.2.2.2.1
abbrev Cx.m (x : Cx) : MethodId := x.2.2.2.2.1
abbrev Cx.args (x : Cx) : Array Value := x.2.2.2.2.2.1
abbrev Cx.below (x : Cx) : List Frame := x.2.2.2.2.2.2.1
abbrev Cx.meth (x : Cx) : Method := x.2.2.2.2.2.2.2.1
abbrev Cx.c (x : Cx) : Code := x.2.2.2.2.2.2.2.2.1
abbrev Cx.B (x : Cx) : State := x.2.2.2.2.2.2.2.2.2.1
abbrev Cx.sf0 (x : Cx) : List Addr := x.2.2.2.2.2.2.2.2.2.2.1
abbrev Cx.nar (x : Cx) : Bool := x.2.2.2.2.2.2.2.2.2.2.2.1
abbrev Cx.kn (x : Cx) : Bool := x.2.2.2.2.2.2.2.2.2.2.2.2
/-- a body: its room, its method's name, bytes, number of locals, what it returns -/
abbrev Bx : Type := Room × MethodName × ByteArray × Nat × Option FieldType
abbrev Bx.R (b : Bx) : Room := b.1
abbrev Bx.y (b : Bx) : MethodName := b.2.1
abbrev Bx.bytes (b : Bx) : ByteArray := b.2.2.1
abbrev Bx.maxL (b : Bx) : Nat := b.2.2.2.1
abbrev Bx.ret (b : Bx) : Option FieldType := b.2.2.2.2
/-- what never moves in a walk -/
def Bs (x : Cx) (b : Bx) (Z : State) (EL : List (String × Nat)) : Prop :=
  (∃ a0, EW Z a0 EL) ∧ x.p.tables.exec = Jvm.exec ∧ x.c.code = b.bytes ∧ x.c.maxLocals = b.maxL ∧ x.meth.sig.returnType = b.ret ∧ x.meth.locks = false ∧ x.meth.name = b.y.name
/-- a cell that the walk may write: made since the walk's start (or handed in), made since the law's start, and no literal's -/
def Mine (x : Cx) (Z : State) (EL : List (String × Nat)) (vm : Vm) (h : Heap) (a : Addr) : Prop := (a ∈ x.sf0 ∨ x.s.heap.size ≤ a) ∧ Z.heap.size ≤ a ∧ a < h.size ∧ Safe Z EL vm h a
/-- what moves, but for the frame -/
def Hx (x : Cx) (b : Bx) (Z : State) (EL : List (String × Nat)) (K S : Nat) (h : Heap) (sf : List Addr) (T : State) (locs : List Loc) (cells slots : Nat) (vm0 : Vm) (k0 : Nat) : Prop :=
  Stand x.p x.l x.e b.R (x.s.setVm vm0) x.m x.args x.below x.meth x.c T locs cells slots ∧ cells ≤ K ∧ slots ≤ S ∧ T.heap = h ∧ Fr Z.heap.size locs ∧
    x.s.Since vm0 k0 ∧ k0 ≤ h.size ∧ Z.Warmed39 vm0 ∧ vm0.findClass b.y.cls = some x.m.cls ∧
    CHr Z EL x.s.vm x.s.heap vm0 h ∧ Keep x.s.heap h x.sf0 ∧ Ext Z.heap h ∧ (∀ a ∈ sf, Mine x Z EL vm0 h a) ∧
    (x.nar = true → x.s.WarmedH vm0) ∧ (x.kn = true → vm0.MethodsKnown ∧ vm0.FramesKnown x.below)
/-- **WHERE THE RUN STANDS**: it has come to the frame (pc, Ls, st), the heap is h; at most K cells and S slots have been made; sf: cells that it may write -/
def Hr (x : Cx) (b : Bx) (Z : State) (EL : List (String × Nat)) (K S : Nat) (h : Heap) (sf : List Addr) (pc : Nat) (Ls : Array Slot) (st : List Value) : Prop :=
  Bs x b Z EL ∧ ∃ (T : State) (locs : List Loc) (cells slots : Nat) (vm0 : Vm) (k0 : Nat), Hx x b Z EL K S h sf T locs cells slots vm0 k0 ∧
    ∀ target, Steps x.p.tables x.e x.below (T.setTop (mkF x.m pc Ls st)) target → Steps x.p.tables x.e x.below x.B target
/-- what an end says: it returned v; Q of it, of the heap and of a list of cells that are the caller's to write; only the cells of sf, and new ones, have been written -/
def Pst (Z : State) (EL : List (String × Nat)) (sf : List Addr) (nar : Bool) (rm : Room) (Q : Option Value → Heap → List Addr → Prop) (U : State) (o : Outcome) (U' : State) : Prop :=
  ∃ (v : Option Value) (L : List Loc) (sn : List Addr), o = .returned v ∧ Q v U'.heap sn ∧ Keep U.heap U'.heap sf ∧ (∀ a ∈ sn, (a ∈ sf ∨ U.heap.size ≤ a) ∧ Z.heap.size ≤ a ∧ a < U'.heap.size ∧ Safe Z EL U'.vm U'.heap a) ∧ Fr Z.heap.size L ∧
    CHr Z EL U.vm U.heap U'.vm U'.heap ∧ (nar = true → U.WarmedH U'.vm) ∧ ReturnedEndW U o U' L rm.cells rm.slots
/-- **A METHOD's CONTRACT** at the arguments as', from the heap h, the cells of sf being its to write -/
def Ct (l : Launch) (Z : State) (EL : List (String × Nat)) (y : MethodName) (bytes : ByteArray) (maxL : Nat) (ret : Option FieldType) (rm : Room) (as' : Array Value) (h : Heap) (sf : List Addr) (nar kn : Bool) (Q : Option Value → Heap → List Addr → Prop) : Prop :=
  ∀ ws : List Jvm.Cond, MetFree l y (head1 (Jvm.Cond.code y bytes maxL ret :: ws) rm) (fun a U => a = as' ∧ Z.Warmed39 U.vm ∧ U.heap = h ∧ CHv Z EL U.vm h ∧ Ext Z.heap h ∧ ∀ a ∈ sf, Z.heap.size ≤ a ∧ a < h.size ∧ Safe Z EL U.vm h a)
    (fun _ _ bl s _ => kn = true → s.vm.MethodsKnown ∧ s.vm.FramesKnown bl) (fun _ U o U' => Pst Z EL sf nar rm Q U o U')
def Ends (x : Cx) (b : Bx) (Z : State) (EL : List (String × Nat)) (Q : Option Value → Heap → List Addr → Prop) : Prop :=
  ∃ (s₂ : State) (o : Outcome), Steps x.p.tables x.e x.below x.B s₂ ∧ s₂.status = .running ∧ Ended s₂ x.below o ∧ Pst Z EL x.sf0 x.nar b.R Q x.s o s₂
section Layer
variable {x : Cx} {b : Bx} {Z : State} {EL : List (String × Nat)} {K S : Nat} {h h' : Heap} {sf : List Addr} {pc pc' : Nat} {Ls Ls' : Array Slot} {st st' : List Value} {a0 : Array Value}
theorem Ext.rfl' (h : Heap) : Ext h h := ⟨Nat.le_refl _, fun _ _ q => q⟩
theorem Ext.tr {h1 h2 h3 : Heap} (A : Ext h1 h2) (B : Ext h2 h3) : Ext h1 h3 := ⟨Nat.le_trans A.1 B.1, fun a c q => B.2 a c (A.2 a c q)⟩
theorem Ext.keep {h1 h2 : Heap} (A : Ext h1 h2) (ws : List Addr) : Keep h1 h2 ws := (Keep.refl _ _).ext A
theorem Ext.ofKeep {h1 h2 h3 : Heap} {ws : List Addr} (A : Ext h1 h2) (B : Keep h2 h3 ws) (q : ∀ a ∈ ws, h1.size ≤ a) : Ext h1 h3 := ⟨Nat.le_trans A.1 B.1, fun a c r => B.2.1 a c (A.2 a c r) fun z => absurd (Array.getElem?_eq_some_iff.mp r).1 (Nat.not_lt.mpr (q a z))⟩
/-- the entry: a contract out of a walk -/
theorem Ct.intro {l : Launch} {y : MethodName} {bytes : ByteArray} {maxL : Nat} {ret : Option FieldType} {rm : Room} {as' : Array Value} {nar kn : Bool} {Q : Option Value → Heap → List Addr → Prop} (hpl : plainName y.cls = true) (hEL : EW Z a0 EL)
    (hef : ∀ m : MethodId, entryFrame m as' maxL = mkF m 0 Ls [])
    (body : ∀ x : Cx, x.l = l → x.nar = nar → x.kn = kn → x.sf0 = sf → x.s.heap = h → Hr x (rm, y, bytes, maxL, ret) Z EL 0 0 h sf 0 Ls [] → Ends x (rm, y, bytes, maxL, ret) Z EL Q) :
    Ct l Z EL y bytes maxL ret rm as' h sf nar kn Q := by
  intro ws
  refine MetFree.of_bodySF (plainFor_of_name hpl) hisR ?_
  intro p e s m args below meth c s₁ Bd hml0 hP hK
  obtain ⟨rfl, hZ, hh, hC, hE, hs⟩ := hP
  have hown : s.vm.findClass y.cls = some m.cls := findClass_of_methodNamed Bd.named
  have hnm := (name_of_methodNamed Bd.named Bd.method).1
  have X0 := Stand.of_body Bd
  have e0 : s₁.heap = h := by rw [← hh, Bd.state]; rfl
  subst hh
  have hF := body (p, l, e, s, m, args, below, meth, c, s₁.setTop (entryFrame m args maxL), sf, nar, kn) rfl rfl rfl rfl rfl
    ⟨⟨⟨_, hEL⟩, Bd.exec, Bd.bytes, hml0, Bd.returns, Bd.notSynchronized, hnm⟩, s₁, [], 0, 0, s.vm, s.heap.size,
      ⟨X0, Nat.le_refl _, Nat.le_refl _, e0, Fr.nil _, (State.WarmedH.refl s).since _, Nat.le_refl _, hZ, hown, CHr.refl hC, Keep.refl _ _, hE, fun a ha => ⟨Or.inl ha, hs a ha⟩, fun _ => State.WarmedH.refl s, hK⟩,
      fun t k => castTop (hef m) k⟩
  exact hF
theorem Hr.base (H : Hr x b Z EL K S h sf pc Ls st) : Bs x b Z EL := H.1
theorem Hr.old (H : Hr x b Z EL K S h sf pc Ls st) : Ext Z.heap h := by obtain ⟨-, T, locs, cells, slots, vm0, k0, X, -⟩ := H; exact X.2.2.2.2.2.2.2.2.2.2.2.1
theorem Hr.kept (H : Hr x b Z EL K S h sf pc Ls st) : Keep x.s.heap h x.sf0 := by obtain ⟨-, T, locs, cells, slots, vm0, k0, X, -⟩ := H; exact X.2.2.2.2.2.2.2.2.2.2.1
theorem Hr.lt {a : Addr} (H : Hr x b Z EL K S h sf pc Ls st) (ha : a ∈ sf) : a < h.size := by obtain ⟨-, T, locs, cells, slots, vm0, k0, X, -⟩ := H; exact (X.2.2.2.2.2.2.2.2.2.2.2.2.1 a ha).2.2.1
theorem Hr.ge {a : Addr} (H : Hr x b Z EL K S h sf pc Ls st) (ha : a ∈ sf) : Z.heap.size ≤ a := by obtain ⟨-, T, locs, cells, slots, vm0, k0, X, -⟩ := H; exact (X.2.2.2.2.2.2.2.2.2.2.2.2.1 a ha).2.1
theorem Hr.since (H : Hr x b Z EL K S h sf pc Ls st) {a : Addr} (ha : a ∈ sf) : a ∈ x.sf0 ∨ x.s.heap.size ≤ a := by obtain ⟨-, T, locs, cells, slots, vm0, k0, X, -⟩ := H; exact (X.2.2.2.2.2.2.2.2.2.2.2.2.1 a ha).1
/-- fewer cells to write, more room said to be used -/
theorem Hr.weaken {K' S' : Nat} {sf' : List Addr} (H : Hr x b Z EL K S h sf pc Ls st) (hK : K ≤ K') (hS : S ≤ S') (hsf : ∀ a ∈ sf', a ∈ sf) : Hr x b Z EL K' S' h sf' pc Ls st := by
  obtain ⟨B, T, locs, cells, slots, vm0, k0, ⟨X, h1, h2, h3, h4, h5, h6, h7, h8, h9, h10, h11, h12, h13, h14⟩, k⟩ := H
  exact ⟨B, T, locs, cells, slots, vm0, k0, ⟨X, Nat.le_trans h1 hK, Nat.le_trans h2 hS, h3, h4, h5, h6, h7, h8, h9, h10, h11, fun a ha => h12 a (hsf a ha), h13, h14⟩, k⟩
/-- a step that moves the frame alone -/
theorem Hr.step (H : Hr x b Z EL K S h sf pc Ls st)
    (f : ∀ T : State, At T x.m x.c x.below → x.p.tables.exec = Jvm.exec → x.c.code = b.bytes → ∀ target, Steps x.p.tables x.e x.below (T.setTop (mkF x.m pc' Ls' st')) target → Steps x.p.tables x.e x.below (T.setTop (mkF x.m pc Ls st)) target) : Hr x b Z EL K S h sf pc' Ls' st' := by
  obtain ⟨B, T, locs, cells, slots, vm0, k0, X, k⟩ := H
  exact ⟨B, T, locs, cells, slots, vm0, k0, X, fun t q => k t (f T X.1.here B.2.1 B.2.2.1 t q)⟩
/-- a step of the library that moves the tables at the most -/
theorem Hr.same (H : Hr x b Z EL K S h sf pc Ls st)
    (f : ∀ (T : State) (locs : List Loc) (cells slots : Nat) (vm0 : Vm), Stand x.p x.l x.e b.R (x.s.setVm vm0) x.m x.args x.below x.meth x.c T locs cells slots → T.heap = h → Z.Warmed39 (x.s.setVm vm0).vm → (x.s.setVm vm0).vm.findClass b.y.cls = some x.m.cls → Bs x b Z EL →
      ∃ T', Stand x.p x.l x.e b.R (x.s.setVm vm0) x.m x.args x.below x.meth x.c T' locs cells slots ∧ T'.heap = h ∧ ∀ target, Steps x.p.tables x.e x.below (T'.setTop (mkF x.m pc' Ls' st')) target → Steps x.p.tables x.e x.below (T.setTop (mkF x.m pc Ls st)) target) : Hr x b Z EL K S h sf pc' Ls' st' := by
  obtain ⟨B, T, locs, cells, slots, vm0, k0, ⟨X, h1, h2, h3, h4, h5, h6, h7, h8, hr⟩, k⟩ := H
  obtain ⟨T', X', e', st1⟩ := f T locs cells slots vm0 X h3 h7 h8 B
  exact ⟨B, T', locs, cells, slots, vm0, k0, ⟨X', h1, h2, e', h4, h5, h6, h7, h8, hr⟩, fun t q => k t (st1 t q)⟩
/-- a step of the library that writes one slot of a cell that is the walk's -/
theorem Hr.write {a : Addr} {sl : Nat} {v : Value} (H : Hr x b Z EL K S h sf pc Ls st) (ha : a ∈ sf)
    (f : ∀ (T : State) (locs : List Loc) (cells slots : Nat) (vm0 : Vm), Stand x.p x.l x.e b.R (x.s.setVm vm0) x.m x.args x.below x.meth x.c T locs cells slots → T.heap = h → Z.Warmed39 (x.s.setVm vm0).vm → (x.s.setVm vm0).vm.findClass b.y.cls = some x.m.cls → Bs x b Z EL →
      ∃ T' h', Stand x.p x.l x.e b.R (x.s.setVm vm0) x.m x.args x.below x.meth x.c T' (locs ++ [⟨a, sl⟩]) cells slots ∧ T'.heap = h' ∧ Wr h h' a sl v ∧ ∀ target, Steps x.p.tables x.e x.below (T'.setTop (mkF x.m pc' Ls' st')) target → Steps x.p.tables x.e x.below (T.setTop (mkF x.m pc Ls st)) target) :
    ∃ h', Wr h h' a sl v ∧ Hr x b Z EL K S h' sf pc' Ls' st' := by
  obtain ⟨B, T, locs, cells, slots, vm0, k0, ⟨X, h1, h2, h3, h4, h5, h6, h7, h8, h9, h10, h11, h12, h13, h14⟩, k⟩ := H
  obtain ⟨T', h', X', e', W, st1⟩ := f T locs cells slots vm0 X h3 h7 h8 B
  have hm := h12 a ha
  have q1 := CHv.wrStep W hm.2.2.2 h9.1
  refine ⟨h', W, B, T', _, cells, slots, vm0, k0, ⟨X', h1, h2, e', Fr.snoc X' h4 hm.2.1, h5, by rw [W.size]; exact h6, h7, h8, h9.trans (CHr.wr W hm.2.2.2 h9.1), h10.wr W hm.1, Ext.ofKeep h11 (Keep.of_wr W) (allS hm.2.1 all0), fun y hy => ?_, h13, h14⟩, fun t q => k t (st1 t q)⟩
  obtain ⟨y1, y2, y3, y4⟩ := h12 y hy
  exact ⟨y1, y2, by rw [W.size]; exact y3, Safe.wr W hm.2.2.2 h9.1 y4⟩
/-- a step of the library that makes one cell -/
theorem Hr.alloc {n : Nat} {P : Heap → Prop} (H : Hr x b Z EL K S h sf pc Ls st) (hc : K + 1 ≤ b.R.cells) (hl : S + n ≤ b.R.slots) (hlt : ∀ h', P h' → h.size < h'.size)
    (f : ∀ (T : State) (locs : List Loc) (cells slots : Nat) (vm0 : Vm), Stand x.p x.l x.e b.R (x.s.setVm vm0) x.m x.args x.below x.meth x.c T locs cells slots → T.heap = h → Z.Warmed39 (x.s.setVm vm0).vm → (x.s.setVm vm0).vm.findClass b.y.cls = some x.m.cls → Bs x b Z EL → cells + 1 ≤ b.R.cells → slots + n ≤ b.R.slots →
      ∃ T' h', Stand x.p x.l x.e b.R (x.s.setVm vm0) x.m x.args x.below x.meth x.c T' locs (cells + 1) (slots + n) ∧ T'.heap = h' ∧ Ext h h' ∧ P h' ∧ ∀ target, Steps x.p.tables x.e x.below (T'.setTop (mkF x.m pc' Ls' st')) target → Steps x.p.tables x.e x.below (T.setTop (mkF x.m pc Ls st)) target) :
    ∃ h', Ext h h' ∧ P h' ∧ Hr x b Z EL (K + 1) (S + n) h' (h.size :: sf) pc' Ls' st' := by
  obtain ⟨B, T, locs, cells, slots, vm0, k0, ⟨X, h1, h2, h3, h4, h5, h6, h7, h8, h9, h10, h11, h12, h13, h14⟩, k⟩ := H
  obtain ⟨T', h', X', e', E, hp, st1⟩ := f T locs cells slots vm0 X h3 h7 h8 B (by omega) (by omega)
  refine ⟨h', E, hp, B, T', _, _, _, vm0, k0, ⟨X', by omega, by omega, e', h4, h5, Nat.le_trans h6 E.1, h7, h8, h9.trans (CHr.ext E h9.1), h10.ext E, Ext.tr h11 E, fun y hy => ?_, h13, h14⟩, fun t q => k t (st1 t q)⟩
  rcases List.mem_cons.mp hy with rfl | hy
  · exact ⟨Or.inr h10.1, h11.1, hlt h' hp, Safe.ext E h9.1 (Safe.new (Nat.le_refl _))⟩
  · obtain ⟨y1, y2, y3, y4⟩ := h12 y hy
    exact ⟨y1, y2, Nat.lt_of_lt_of_le y3 E.1, Safe.ext E h9.1 y4⟩
/-- the payer: a contract as the library's calls take it -/
theorem Ct.backS {l : Launch} {y : MethodName} {bytes : ByteArray} {maxL : Nat} {ret : Option FieldType} {rm : Room} {as' : Array Value} {nar kn : Bool} {Q : Option Value → Heap → List Addr → Prop} (C : Ct l Z EL y bytes maxL ret rm as' h sf nar kn Q)
    {p : Program} {e : Env} {R : Room} {below : List Frame} {s : State} {vm0 : Vm} {args a1 : Array Value} {len W : Nat} (hZ : Z.Warmed39 vm0) (wc : (Jvm.Cond.code y bytes maxL ret).before a0 Z = true) (wz : (Jvm.Cond.initialized y.cls).before a0 Z = true) (hf : rm.frames + 1 ≤ R.frames) (hl : W + (maxL + 11) + rm.locals ≤ R.locals)
    (hEL : EW Z a1 EL) (H : CHv Z EL vm0 h) (hE : Ext Z.heap h) (hsf : ∀ a ∈ sf, Z.heap.size ≤ a ∧ a < h.size ∧ Safe Z EL vm0 h a) (hkn : kn = true → vm0.MethodsKnown ∧ vm0.FramesKnown below) :
    BackS l R p e below (s.setVm vm0) args y len W (fun A a => a = as' ∧ A.U.heap = h ∧ A.cells + rm.cells ≤ R.cells ∧ A.slots + rm.slots ≤ R.slots)
      (fun A _ v B => ∃ (L : List Loc) (sn : List Addr), Q v B.U.heap sn ∧ Keep h B.U.heap sf ∧ (∀ a ∈ sn, (a ∈ sf ∨ h.size ≤ a) ∧ Z.heap.size ≤ a ∧ a < B.U.heap.size ∧ Safe Z EL B.U.vm B.U.heap a) ∧ Fr Z.heap.size L ∧ B.locs = A.locs ++ L ∧ B.cells = A.cells + rm.cells ∧ B.slots = A.slots + rm.slots ∧
        CHr Z EL vm0 h B.U.vm B.U.heap ∧ (nar = true → (s.setVm vm0).WarmedH B.U.vm)) :=
  BackS.of_freeWG (bytes := bytes) (maxL := maxL) (ret := ret)
    (E := fun _ first o t L k n => k = rm.cells ∧ n = rm.slots ∧ ∃ (v : Option Value) (sn : List Addr), o = .returned v ∧ Q v t.heap sn ∧ Keep first.heap t.heap sf ∧ (∀ a ∈ sn, (a ∈ sf ∨ first.heap.size ≤ a) ∧ Z.heap.size ≤ a ∧ a < t.heap.size ∧ Safe Z EL t.vm t.heap a) ∧ Fr Z.heap.size L ∧ CHr Z EL first.vm first.heap t.vm t.heap ∧ (nar = true → first.WarmedH t.vm)) (C []) hf hl
    (fun m meth c A a Y hp => have hU : Z.Warmed39 A.U.vm := wtrans (s := s.setVm vm0) hZ Y.warmed
      ⟨by show (Jvm.Cond.and _ .tt).before a A.U = true; rw [Cond.before_and, mv hU wc]; rfl, mv hU wc, mv hU wz, hp.2.2.1, hp.2.2.2⟩)
    (fun m meth c A a g mk Y hp => ⟨hp.1, wtrans (s := s.setVm vm0) hZ Y.warmed, hp.2.1, (CHv.at Y hZ hEL H).1, hE, fun z hz => ⟨(hsf z hz).1, (hsf z hz).2.1, (CHv.at Y hZ hEL H).safe (hsf z hz).2.1 (hsf z hz).2.2⟩⟩)
    (fun m meth c A a g mk Y _ hg hk => known_frames Y hg (hkn hk).1 (hkn hk).2)
    (fun _ _ _ _ ⟨v, L, sn, q1, q2, q3, q4, q5, q6, q7, q8⟩ => ⟨L, _, _, q8, rfl, rfl, v, sn, q1, q2, q3, q4, q5, q6, q7⟩)
    (fun m meth c A a g mk v t L k n Y hp _ _ ⟨e1, e2, v', sn, q1, q2, q3, q4, q5, q6, q7⟩ => by
      cases q1; subst e1 e2
      obtain ⟨-, rfl, -⟩ := hp
      exact ⟨L, sn, q2, q3, q4, q5, rfl, rfl, rfl, (CHv.at Y hZ hEL H).trans q6, fun hn => State.WarmedH.trans (t := A.U) Y.warmed (q7 hn)⟩)
/-- behind a call: from what the library hands out to where the run stands -/
theorem Hr.after {rm : Room} {sf' : List Addr} {Q : Option Value → Heap → List Addr → Prop} (B : Bs x b Z EL) {T : State} {locs : List Loc} {cells slots : Nat} {vm0 : Vm} {k0 : Nat} (X : Hx x b Z EL K S h sf T locs cells slots vm0 k0)
    (k : ∀ target, Steps x.p.tables x.e x.below (T.setTop (mkF x.m pc Ls st)) target → Steps x.p.tables x.e x.below x.B target) (sub : ∀ a ∈ sf', a ∈ sf)
    {P : Pt} (X' : Stand x.p x.l x.e b.R ((x.s.setVm vm0).setVm P.U.vm) x.m x.args x.below x.meth x.c P.U P.locs P.cells P.slots) (hS : (x.s.setVm vm0).Since P.U.vm P.U.heap.size) (hgr : T.heap.size ≤ P.U.heap.size) {v : Option Value}
    (hp : ∃ (L : List Loc) (sn : List Addr), Q v P.U.heap sn ∧ Keep h P.U.heap sf' ∧ (∀ a ∈ sn, (a ∈ sf' ∨ h.size ≤ a) ∧ Z.heap.size ≤ a ∧ a < P.U.heap.size ∧ Safe Z EL P.U.vm P.U.heap a) ∧ Fr Z.heap.size L ∧ P.locs = locs ++ L ∧ P.cells = cells + rm.cells ∧ P.slots = slots + rm.slots ∧
        CHr Z EL vm0 h P.U.vm P.U.heap ∧ (x.nar = true → (x.s.setVm vm0).WarmedH P.U.vm))
    (hst : Steps x.p.tables x.e x.below (T.setTop (mkF x.m pc Ls st)) (P.U.setTop (mkF x.m pc' Ls st'))) :
    ∃ (h' : Heap) (sn : List Addr), Q v h' sn ∧ Keep h h' sf' ∧ Hr x b Z EL (K + rm.cells) (S + rm.slots) h' (sn ++ sf) pc' Ls st' := by
  obtain ⟨X, h1, h2, h3, h4, h5, h6, h7, h8, h9, h10, h11, h12, h13, h14⟩ := X
  obtain ⟨L, sn, q1, q2, q3, q4, q5, q6, q7, q8, q9⟩ := hp
  have hsf0 : ∀ z ∈ sf', z ∈ x.sf0 ∨ x.s.heap.size ≤ z := fun z hz => (h12 z (sub z hz)).1
  refine ⟨_, sn, q1, q2, B, P.U, P.locs, P.cells, P.slots, P.U.vm, P.U.heap.size, ⟨X', by omega, by omega, rfl, by rw [q5]; exact h4.app q4, h5.trans hS (by rw [h3] at hgr; exact Nat.le_trans h6 hgr), Nat.le_refl _, State.Warmed39.trans (t := x.s.setVm vm0) h7 hS.1, (hS.1.alike.findClass _ _).trans h8, h9.trans q8, h10.trans q2 hsf0,
    Ext.ofKeep h11 q2 (fun z hz => (h12 z (sub z hz)).2.1), fun z hz => ?_, fun hn => State.WarmedH.trans (t := x.s.setVm vm0) (h13 hn) (q9 hn), fun hk => ⟨Vm.MethodsKnown.alikeC hS.1.alike (h14 hk).1, Vm.FramesKnown.alikeC hS.1.alike (h14 hk).2⟩⟩, fun t q => k t (hst.trans q)⟩
  rcases List.mem_append.mp hz with hz | hz
  · obtain ⟨z1, z2, z3, z4⟩ := q3 z hz
    refine ⟨z1.elim (hsf0 z) (fun q => Or.inr (Nat.le_trans h10.1 q)), z2, z3, z4⟩
  · obtain ⟨z1, z2, z3, z4⟩ := h12 z hz
    exact ⟨z1, z2, Nat.lt_of_lt_of_le z3 q2.1, q8.safe z3 z4⟩
end Layer
end Jvm.Pilot.@@N@@
namespace Jvm.Pilot.@@N@@
open Jvm Jvm.ClassFile Sem Op Lib Bundle Jvm.Free Jvm.Stand Jvm.LawKit Jvm.RoadKit
section Layer2
variable {x : Cx} {b : Bx} {Z : State} {EL : List (String × Nat)} {K S : Nat} {h h' : Heap} {sf : List Addr} {pc pc' : Nat} {Ls Ls' : Array Slot} {st st' : List Value} {a0 : Array Value}
/-! ### plain steps -/
theorem Hr.iloadN {k : Fin 4} {v : Int32} (H : Hr x b Z EL K S h sf pc Ls st) (hd : decode b.bytes pc = .ok (.iload_n k, 1)) (hl : Ls[k.val]? = some (.val (.int v)) := by rfl) (hpc : pc + 1 = pc' := by rfl) : Hr x b Z EL K S h sf pc' Ls (.int v :: st) := by
  subst hpc; exact H.step fun T A hx hby t q => XS.iloadN A hx rfl (hb hby hd) hl q
theorem Hr.iload {k : Nat} {v : Int32} (H : Hr x b Z EL K S h sf pc Ls st) (hd : decode b.bytes pc = .ok (.iload k, 2)) (hl : Ls[k]? = some (.val (.int v)) := by rfl) (hpc : pc + 2 = pc' := by rfl) : Hr x b Z EL K S h sf pc' Ls (.int v :: st) := by
  subst hpc; exact H.step fun T A hx hby t q => XS.iload A hx rfl (hb hby hd) hl q
theorem Hr.aloadN {k : Fin 4} {v : Value} (H : Hr x b Z EL K S h sf pc Ls st) (hd : decode b.bytes pc = .ok (.aload_n k, 1)) (hl : Ls[k.val]? = some (.val v) := by rfl) (hv : v.isRef = true := by rfl) (hpc : pc + 1 = pc' := by rfl) : Hr x b Z EL K S h sf pc' Ls (v :: st) := by
  subst hpc; exact H.step fun T A hx hby t q => XS.aloadN A hx rfl (hb hby hd) hl hv q
theorem Hr.aload {k : Nat} {v : Value} (H : Hr x b Z EL K S h sf pc Ls st) (hd : decode b.bytes pc = .ok (.aload k, 2)) (hl : Ls[k]? = some (.val v) := by rfl) (hv : v.isRef = true := by rfl) (hpc : pc + 2 = pc' := by rfl) : Hr x b Z EL K S h sf pc' Ls (v :: st) := by
  subst hpc; exact H.step fun T A hx hby t q => XS.aload A hx rfl (hb hby hd) hl hv q
theorem Hr.iconst {i : Int} {v : Int32} (H : Hr x b Z EL K S h sf pc Ls st) (hd : decode b.bytes pc = .ok (.iconst i, 1)) (hv : Int32.ofInt i = v := by first | rfl | decide) (hpc : pc + 1 = pc' := by rfl) : Hr x b Z EL K S h sf pc' Ls (.int v :: st) := by
  subst hpc hv; exact H.step fun T A hx hby t q => XS.iconst A hx rfl (hb hby hd) q
theorem Hr.bipush {i : Int} {v : Int32} (H : Hr x b Z EL K S h sf pc Ls st) (hd : decode b.bytes pc = .ok (.bipush i, 2)) (hv : (Int8.ofInt i).toInt32 = v := by first | rfl | decide) (hpc : pc + 2 = pc' := by rfl) : Hr x b Z EL K S h sf pc' Ls (.int v :: st) := by
  subst hpc hv; exact H.step fun T A hx hby t q => XS.bipush A hx rfl (hb hby hd) q
theorem Hr.sipush {i : Int} {v : Int32} (H : Hr x b Z EL K S h sf pc Ls st) (hd : decode b.bytes pc = .ok (.sipush i, 3)) (hv : (Int16.ofInt i).toInt32 = v := by first | rfl | decide) (hpc : pc + 3 = pc' := by rfl) : Hr x b Z EL K S h sf pc' Ls (.int v :: st) := by
  subst hpc hv; exact H.step fun T A hx hby t q => XS.sipush A hx rfl (hb hby hd) q
theorem Hr.aconstNull (H : Hr x b Z EL K S h sf pc Ls st) (hd : decode b.bytes pc = .ok (.aconst_null, 1)) (hpc : pc + 1 = pc' := by rfl) : Hr x b Z EL K S h sf pc' Ls (.null :: st) := by
  subst hpc; exact H.step fun T A hx hby t q => XS.aconstNull A hx rfl (hb hby hd) q
theorem Hr.iadd {u w v : Int32} (H : Hr x b Z EL K S h sf pc Ls (.int w :: .int u :: st)) (hd : decode b.bytes pc = .ok (.iadd, 1)) (hv : u + w = v := by rfl) (hpc : pc + 1 = pc' := by rfl) : Hr x b Z EL K S h sf pc' Ls (.int v :: st) := by
  subst hpc hv; exact H.step fun T A hx hby t q => XS.iadd A hx rfl (hb hby hd) rfl q
theorem Hr.isub {u w v : Int32} (H : Hr x b Z EL K S h sf pc Ls (.int w :: .int u :: st)) (hd : decode b.bytes pc = .ok (.isub, 1)) (hv : u - w = v := by rfl) (hpc : pc + 1 = pc' := by rfl) : Hr x b Z EL K S h sf pc' Ls (.int v :: st) := by
  subst hpc hv; exact H.step fun T A hx hby t q => XS.isub A hx rfl (hb hby hd) rfl q
theorem Hr.imul {u w v : Int32} (H : Hr x b Z EL K S h sf pc Ls (.int w :: .int u :: st)) (hd : decode b.bytes pc = .ok (.imul, 1)) (hv : u * w = v := by rfl) (hpc : pc + 1 = pc' := by rfl) : Hr x b Z EL K S h sf pc' Ls (.int v :: st) := by
  subst hpc hv; exact H.step fun T A hx hby t q => XS.imul A hx rfl (hb hby hd) rfl q
theorem Hr.iand {u w v : Int32} (H : Hr x b Z EL K S h sf pc Ls (.int w :: .int u :: st)) (hd : decode b.bytes pc = .ok (.iand, 1)) (hv : u &&& w = v := by rfl) (hpc : pc + 1 = pc' := by rfl) : Hr x b Z EL K S h sf pc' Ls (.int v :: st) := by
  subst hpc hv; exact H.step fun T A hx hby t q => XS.iand A hx rfl (hb hby hd) rfl q
theorem Hr.ior {u w v : Int32} (H : Hr x b Z EL K S h sf pc Ls (.int w :: .int u :: st)) (hd : decode b.bytes pc = .ok (.ior, 1)) (hv : u ||| w = v := by rfl) (hpc : pc + 1 = pc' := by rfl) : Hr x b Z EL K S h sf pc' Ls (.int v :: st) := by
  subst hpc hv; exact H.step fun T A hx hby t q => XT.ior A hx rfl (hb hby hd) rfl q
theorem Hr.ixor {u w v : Int32} (H : Hr x b Z EL K S h sf pc Ls (.int w :: .int u :: st)) (hd : decode b.bytes pc = .ok (.ixor, 1)) (hv : u ^^^ w = v := by rfl) (hpc : pc + 1 = pc' := by rfl) : Hr x b Z EL K S h sf pc' Ls (.int v :: st) := by
  subst hpc hv; exact H.step fun T A hx hby t q => XT.ixor A hx rfl (hb hby hd) rfl q
theorem Hr.ishl {u w v : Int32} (H : Hr x b Z EL K S h sf pc Ls (.int w :: .int u :: st)) (hd : decode b.bytes pc = .ok (.ishl, 1)) (hv : u <<< (w &&& 31) = v := by rfl) (hpc : pc + 1 = pc' := by rfl) : Hr x b Z EL K S h sf pc' Ls (.int v :: st) := by
  subst hpc hv; exact H.step fun T A hx hby t q => XT.ishl A hx rfl (hb hby hd) rfl q
theorem Hr.ishr {u w v : Int32} (H : Hr x b Z EL K S h sf pc Ls (.int w :: .int u :: st)) (hd : decode b.bytes pc = .ok (.ishr, 1)) (hv : u >>> (w &&& 31) = v := by rfl) (hpc : pc + 1 = pc' := by rfl) : Hr x b Z EL K S h sf pc' Ls (.int v :: st) := by
  subst hpc hv; exact H.step fun T A hx hby t q => XT.ishr A hx rfl (hb hby hd) rfl q
theorem Hr.iushr {u w v : Int32} (H : Hr x b Z EL K S h sf pc Ls (.int w :: .int u :: st)) (hd : decode b.bytes pc = .ok (.iushr, 1)) (hv : (u.toUInt32 >>> (w &&& 31).toUInt32).toInt32 = v := by rfl) (hpc : pc + 1 = pc' := by rfl) : Hr x b Z EL K S h sf pc' Ls (.int v :: st) := by
  subst hpc hv; exact H.step fun T A hx hby t q => XT.iushr A hx rfl (hb hby hd) rfl q
theorem Hr.ineg {u v : Int32} (H : Hr x b Z EL K S h sf pc Ls (.int u :: st)) (hd : decode b.bytes pc = .ok (.ineg, 1)) (hv : -u = v := by rfl) (hpc : pc + 1 = pc' := by rfl) : Hr x b Z EL K S h sf pc' Ls (.int v :: st) := by
  subst hpc hv; exact H.step fun T A hx hby t q => XS.ineg A hx rfl (hb hby hd) rfl q
theorem Hr.irem {u w v : Int32} (H : Hr x b Z EL K S h sf pc Ls (.int w :: .int u :: st)) (hd : decode b.bytes pc = .ok (.irem, 1)) (hw : w ≠ 0) (hv : u % w = v := by rfl) (hpc : pc + 1 = pc' := by rfl) : Hr x b Z EL K S h sf pc' Ls (.int v :: st) := by
  subst hpc hv; exact H.step fun T A hx hby t q => XS.irem A hx rfl (hb hby hd) rfl hw (by rw [irem_eq_mod]; exact q)
theorem Hr.idiv {u w v : Int32} (H : Hr x b Z EL K S h sf pc Ls (.int w :: .int u :: st)) (hd : decode b.bytes pc = .ok (.idiv, 1)) (hw : w ≠ 0) (hv : u / w = v := by rfl) (hpc : pc + 1 = pc' := by rfl) : Hr x b Z EL K S h sf pc' Ls (.int v :: st) := by
  subst hpc hv; exact H.step fun T A hx hby t q => XS.idiv A hx rfl (hb hby hd) rfl hw q
theorem Hr.i2c {u v : Int32} (H : Hr x b Z EL K S h sf pc Ls (.int u :: st)) (hd : decode b.bytes pc = .ok (.i2c, 1)) (hv : u.toUInt32.toUInt16.toUInt32.toInt32 = v := by rfl) (hpc : pc + 1 = pc' := by rfl) : Hr x b Z EL K S h sf pc' Ls (.int v :: st) := by
  subst hpc hv; exact H.step fun T A hx hby t q => XT.i2c A hx rfl (hb hby hd) rfl q
theorem Hr.i2b {u v : Int32} (H : Hr x b Z EL K S h sf pc Ls (.int u :: st)) (hd : decode b.bytes pc = .ok (.i2b, 1)) (hv : u.toInt8.toInt32 = v := by rfl) (hpc : pc + 1 = pc' := by rfl) : Hr x b Z EL K S h sf pc' Ls (.int v :: st) := by
  subst hpc hv; exact H.step fun T A hx hby t q => XT.i2b A hx rfl (hb hby hd) rfl q
theorem Hr.dup {v : Value} (H : Hr x b Z EL K S h sf pc Ls (v :: st)) (hd : decode b.bytes pc = .ok (.dup, 1)) (hc : v.category = 1 := by rfl) (hpc : pc + 1 = pc' := by rfl) : Hr x b Z EL K S h sf pc' Ls (v :: v :: st) := by
  subst hpc; exact H.step fun T A hx hby t q => XS.dup A hx rfl (hb hby hd) rfl hc q
theorem Hr.dupX1 {v w : Value} (H : Hr x b Z EL K S h sf pc Ls (v :: w :: st)) (hd : decode b.bytes pc = .ok (.dup_x1, 1)) (hc : v.category = 1 := by rfl) (hc' : w.category = 1 := by rfl) (hpc : pc + 1 = pc' := by rfl) : Hr x b Z EL K S h sf pc' Ls (v :: w :: v :: st) := by
  subst hpc; exact H.step fun T A hx hby t q => XT.dupX1 A hx rfl (hb hby hd) rfl hc hc' q
theorem Hr.pop {v : Value} (H : Hr x b Z EL K S h sf pc Ls (v :: st)) (hd : decode b.bytes pc = .ok (.pop, 1)) (hc : v.category = 1 := by rfl) (hpc : pc + 1 = pc' := by rfl) : Hr x b Z EL K S h sf pc' Ls st := by
  subst hpc; exact H.step fun T A hx hby t q => XT.pop A hx rfl (hb hby hd) rfl hc q
theorem Hr.istoreN {k : Fin 4} {v : Int32} (H : Hr x b Z EL K S h sf pc Ls (.int v :: st)) (hd : decode b.bytes pc = .ok (.istore_n k, 1)) (hl : storeLocals Ls k.val (.int v) = some Ls' := by rfl) (hpc : pc + 1 = pc' := by rfl) : Hr x b Z EL K S h sf pc' Ls' st := by
  subst hpc; exact H.step fun T A hx hby t q => XS.istoreN A hx rfl (hb hby hd) rfl hl q
theorem Hr.istore {k : Nat} {v : Int32} (H : Hr x b Z EL K S h sf pc Ls (.int v :: st)) (hd : decode b.bytes pc = .ok (.istore k, 2)) (hl : storeLocals Ls k (.int v) = some Ls' := by rfl) (hpc : pc + 2 = pc' := by rfl) : Hr x b Z EL K S h sf pc' Ls' st := by
  subst hpc; exact H.step fun T A hx hby t q => XS.istore A hx rfl (hb hby hd) rfl hl q
theorem Hr.astoreN {k : Fin 4} {v : Value} (H : Hr x b Z EL K S h sf pc Ls (v :: st)) (hd : decode b.bytes pc = .ok (.astore_n k, 1)) (hl : storeLocals Ls k.val v = some Ls' := by rfl) (hv : v.isRef = true := by rfl) (hpc : pc + 1 = pc' := by rfl) : Hr x b Z EL K S h sf pc' Ls' st := by
  subst hpc; exact H.step fun T A hx hby t q => XS.astoreN A hx rfl (hb hby hd) rfl hv hl q
theorem Hr.astore {k : Nat} {v : Value} (H : Hr x b Z EL K S h sf pc Ls (v :: st)) (hd : decode b.bytes pc = .ok (.astore k, 2)) (hl : storeLocals Ls k v = some Ls' := by rfl) (hv : v.isRef = true := by rfl) (hpc : pc + 2 = pc' := by rfl) : Hr x b Z EL K S h sf pc' Ls' st := by
  subst hpc; exact H.step fun T A hx hby t q => XS.astore A hx rfl (hb hby hd) rfl hv hl q
theorem Hr.iinc {k : Nat} {cst : Int} {u v : Int32} (H : Hr x b Z EL K S h sf pc Ls st) (hd : decode b.bytes pc = .ok (.iinc k cst, 3)) (hl : Ls[k]? = some (.val (.int u)) := by rfl) (hv : u + Int32.ofInt cst = v := by rfl) (hl' : storeLocals Ls k (.int v) = some Ls' := by rfl) (hpc : pc + 3 = pc' := by rfl) : Hr x b Z EL K S h sf pc' Ls' st := by
  subst hpc hv; exact H.step fun T A hx hby t q => XS.iinc A hx rfl (hb hby hd) hl hl' q
theorem Hr.goto {o : Int} (H : Hr x b Z EL K S h sf pc Ls st) (hd : decode b.bytes pc = .ok (.goto o, 3)) (hp : ((pc : Int) + o).toNat = pc' := by decide) (ho : 0 ≤ (pc : Int) + o := by decide) : Hr x b Z EL K S h sf pc' Ls st := by
  exact H.step fun T A hx hby t q => XS.goto A hx rfl (pc0 := pc) rfl (hb hby hd) ho hp q
theorem Hr.ifT {cd : ClassFile.Cond} {o : Int} {u : Int32} (H : Hr x b Z EL K S h sf pc Ls (.int u :: st)) (hd : decode b.bytes pc = .ok (.ifCond cd o, 3)) (hc : ifCond.holds cd u = true) (hp : ((pc : Int) + o).toNat = pc' := by decide) (ho : 0 ≤ (pc : Int) + o := by decide) : Hr x b Z EL K S h sf pc' Ls st := by
  exact H.step fun T A hx hby t q => XS.ifYes A hx rfl (pc0 := pc) rfl (hb hby hd) rfl hc ho hp q
theorem Hr.ifF {cd : ClassFile.Cond} {o : Int} {u : Int32} (H : Hr x b Z EL K S h sf pc Ls (.int u :: st)) (hd : decode b.bytes pc = .ok (.ifCond cd o, 3)) (hc : ifCond.holds cd u = false) (hpc : pc + 3 = pc' := by rfl) : Hr x b Z EL K S h sf pc' Ls st := by
  subst hpc; exact H.step fun T A hx hby t q => XS.ifNo A hx rfl (hb hby hd) rfl hc q
theorem Hr.icmpT {cd : ClassFile.Cond} {o : Int} {u w : Int32} (H : Hr x b Z EL K S h sf pc Ls (.int w :: .int u :: st)) (hd : decode b.bytes pc = .ok (.if_icmp cd o, 3)) (hc : if_icmp.holds cd u w = true) (hp : ((pc : Int) + o).toNat = pc' := by decide) (ho : 0 ≤ (pc : Int) + o := by decide) : Hr x b Z EL K S h sf pc' Ls st := by
  exact H.step fun T A hx hby t q => XS.icmpYes A hx rfl (pc0 := pc) rfl (hb hby hd) rfl hc ho hp q
theorem Hr.icmpF {cd : ClassFile.Cond} {o : Int} {u w : Int32} (H : Hr x b Z EL K S h sf pc Ls (.int w :: .int u :: st)) (hd : decode b.bytes pc = .ok (.if_icmp cd o, 3)) (hc : if_icmp.holds cd u w = false) (hpc : pc + 3 = pc' := by rfl) : Hr x b Z EL K S h sf pc' Ls st := by
  subst hpc; exact H.step fun T A hx hby t q => XS.icmpNo A hx rfl (hb hby hd) rfl hc q
theorem Hr.acmpT {cd : ClassFile.ACond} {o : Int} {u w : Value} (H : Hr x b Z EL K S h sf pc Ls (w :: u :: st)) (hd : decode b.bytes pc = .ok (.if_acmp cd o, 3)) (hc : XT.acmp cd u w = true) (hu : u.isRef = true := by rfl) (hw : w.isRef = true := by rfl) (hp : ((pc : Int) + o).toNat = pc' := by decide) (ho : 0 ≤ (pc : Int) + o := by decide) : Hr x b Z EL K S h sf pc' Ls st := by
  exact H.step fun T A hx hby t q => XT.acmpYes A hx rfl (pc0 := pc) rfl (hb hby hd) rfl hu hw hc ho hp q
theorem Hr.acmpF {cd : ClassFile.ACond} {o : Int} {u w : Value} (H : Hr x b Z EL K S h sf pc Ls (w :: u :: st)) (hd : decode b.bytes pc = .ok (.if_acmp cd o, 3)) (hc : XT.acmp cd u w = false) (hu : u.isRef = true := by rfl) (hw : w.isRef = true := by rfl) (hpc : pc + 3 = pc' := by rfl) : Hr x b Z EL K S h sf pc' Ls st := by
  subst hpc; exact H.step fun T A hx hby t q => XT.acmpNo A hx rfl (hb hby hd) rfl hu hw hc q
theorem Hr.ifnullT {o : Int} (H : Hr x b Z EL K S h sf pc Ls (.null :: st)) (hd : decode b.bytes pc = .ok (.ifnull o, 3)) (hp : ((pc : Int) + o).toNat = pc' := by decide) (ho : 0 ≤ (pc : Int) + o := by decide) : Hr x b Z EL K S h sf pc' Ls st := by
  exact H.step fun T A hx hby t q => XS.ifnullYes A hx rfl (pc0 := pc) rfl (hb hby hd) rfl ho hp q
theorem Hr.ifnullF {o : Int} {a : Addr} (H : Hr x b Z EL K S h sf pc Ls (.ref a :: st)) (hd : decode b.bytes pc = .ok (.ifnull o, 3)) (hpc : pc + 3 = pc' := by rfl) : Hr x b Z EL K S h sf pc' Ls st := by
  subst hpc; exact H.step fun T A hx hby t q => XS.ifnullNo A hx rfl (hb hby hd) rfl q
theorem Hr.ifnonnullT {o : Int} {a : Addr} (H : Hr x b Z EL K S h sf pc Ls (.ref a :: st)) (hd : decode b.bytes pc = .ok (.ifnonnull o, 3)) (hp : ((pc : Int) + o).toNat = pc' := by decide) (ho : 0 ≤ (pc : Int) + o := by decide) : Hr x b Z EL K S h sf pc' Ls st := by
  exact H.step fun T A hx hby t q => XT.ifnonnullYes A hx rfl (pc0 := pc) rfl (hb hby hd) rfl ho hp q
theorem Hr.ifnonnullF {o : Int} (H : Hr x b Z EL K S h sf pc Ls (.null :: st)) (hd : decode b.bytes pc = .ok (.ifnonnull o, 3)) (hpc : pc + 3 = pc' := by rfl) : Hr x b Z EL K S h sf pc' Ls st := by
  subst hpc; exact H.step fun T A hx hby t q => XT.ifnonnullNo A hx rfl (hb hby hd) rfl q
/-! ### longs -/
theorem Hr.lloadN {k : Fin 4} {v : Int64} (H : Hr x b Z EL K S h sf pc Ls st) (hd : decode b.bytes pc = .ok (.lload_n k, 1)) (hl : Ls[k.val]? = some (.val (.long v)) := by rfl) (hpc : pc + 1 = pc' := by rfl) : Hr x b Z EL K S h sf pc' Ls (.long v :: st) := by
  subst hpc; exact H.step fun T A hx hby t q => XT.lloadN A hx rfl (hb hby hd) hl q
theorem Hr.lushr {u : Int64} {w : Int32} {v : Int64} (H : Hr x b Z EL K S h sf pc Ls (.int w :: .long u :: st)) (hd : decode b.bytes pc = .ok (.lushr, 1)) (hv : XT.ushrL u w = v := by rfl) (hpc : pc + 1 = pc' := by rfl) : Hr x b Z EL K S h sf pc' Ls (.long v :: st) := by
  subst hpc hv; exact H.step fun T A hx hby t q => XT.lushr A hx rfl (hb hby hd) rfl q
theorem Hr.land {u w v : Int64} (H : Hr x b Z EL K S h sf pc Ls (.long w :: .long u :: st)) (hd : decode b.bytes pc = .ok (.land, 1)) (hv : u &&& w = v := by rfl) (hpc : pc + 1 = pc' := by rfl) : Hr x b Z EL K S h sf pc' Ls (.long v :: st) := by
  subst hpc hv; exact H.step fun T A hx hby t q => XT.land A hx rfl (hb hby hd) rfl q
theorem Hr.l2i {u : Int64} {v : Int32} (H : Hr x b Z EL K S h sf pc Ls (.long u :: st)) (hd : decode b.bytes pc = .ok (.l2i, 1)) (hv : u.toInt32 = v := by rfl) (hpc : pc + 1 = pc' := by rfl) : Hr x b Z EL K S h sf pc' Ls (.int v :: st) := by
  subst hpc hv; exact H.step fun T A hx hby t q => XT.l2i A hx rfl (hb hby hd) rfl q
/-! ### constants, fields, statics, casts -/
theorem Hr.ldcI {index : Nat} {v : Int32} (H : Hr x b Z EL K S h sf pc Ls st) (w : (Jvm.Cond.constant b.y.cls index v).before a0 Z = true) (hd : decode b.bytes pc = .ok (.ldc index, 2)) (hpc : pc + 2 = pc' := by rfl) : Hr x b Z EL K S h sf pc' Ls (.int v :: st) := by
  subst hpc
  exact H.same fun T locs cells slots vm0 X eT hZ hown B => ⟨T, X, eT, X.ldcInt B.2.1 hown (mvT hZ w) (g := mkF x.m pc Ls st) rfl (hb B.2.2.1 hd)⟩
theorem Hr.ldcL {index : Nat} {v : Int64} (H : Hr x b Z EL K S h sf pc Ls st) (w : (Jvm.Cond.constantLong b.y.cls index v).before a0 Z = true) (hd : decode b.bytes pc = .ok (.ldc2_w index, 3)) (hpc : pc + 3 = pc' := by rfl) : Hr x b Z EL K S h sf pc' Ls (.long v :: st) := by
  subst hpc
  exact H.same fun T locs cells slots vm0 X eT hZ hown B => ⟨T, X, eT, X.ldc2Long B.2.1 hown (mvT hZ w) (g := mkF x.m pc Ls st) rfl (hb B.2.2.1 hd)⟩
theorem Hr.getF {index : Nat} {O n d : String} {a : Addr} {v : Value} (H : Hr x b Z EL K S h sf pc Ls (.ref a :: st)) (w : (Jvm.Cond.fieldLink b.y.cls index O n d).before a0 Z = true) (F : Fld Z h a O n d v) (hd : decode b.bytes pc = .ok (.getfield index, 3)) (hpc : pc + 3 = pc' := by rfl) : Hr x b Z EL K S h sf pc' Ls (v :: st) := by
  subst hpc
  exact H.same fun T locs cells slots vm0 X eT hZ hown B => Jvm.RoadKit.getF X B.2.1 hZ hown (host := "") (Or.inl w) Via.refl eT F (g := mkF x.m pc Ls (.ref a :: st)) rfl rfl (hb B.2.2.1 hd)
theorem Hr.getFvia {index : Nat} {R0 O n d : String} {a : Addr} {v : Value} (H : Hr x b Z EL K S h sf pc Ls (.ref a :: st)) (w : (Jvm.Cond.fieldLink b.y.cls index R0 n d).before a0 Z = true) (via : Via Z R0 O n d) (F : Fld Z h a O n d v) (hd : decode b.bytes pc = .ok (.getfield index, 3)) (hpc : pc + 3 = pc' := by rfl) : Hr x b Z EL K S h sf pc' Ls (v :: st) := by
  subst hpc
  exact H.same fun T locs cells slots vm0 X eT hZ hown B => Jvm.RoadKit.getF X B.2.1 hZ hown (host := "") (Or.inl w) via eT F (g := mkF x.m pc Ls (.ref a :: st)) rfl rfl (hb B.2.2.1 hd)
theorem Hr.getS {index : Nat} {O n d : String} {v : Value} (H : Hr x b Z EL K S h sf pc Ls st) (w : (Jvm.Cond.fieldLink b.y.cls index O n d).before a0 Z = true) (F : Sta Z h O n d v) (hd : decode b.bytes pc = .ok (.getstatic index, 3)) (hpc : pc + 3 = pc' := by rfl) : Hr x b Z EL K S h sf pc' Ls (v :: st) := by
  subst hpc
  exact H.same fun T locs cells slots vm0 X eT hZ hown B => Jvm.RoadKit.getS (host := "") X B.2.1 hZ hown w Via.refl eT F (g := mkF x.m pc Ls st) rfl (hb B.2.2.1 hd)
theorem Hr.cast {index : Nat} {C : String} {a : Addr} (H : Hr x b Z EL K S h sf pc Ls (.ref a :: st)) (w : (Jvm.Cond.classLink b.y.cls index C).before a0 Z = true) (F : Ins Z h a C true) (hd : decode b.bytes pc = .ok (.checkcast index, 3)) (hpc : pc + 3 = pc' := by rfl) : Hr x b Z EL K S h sf pc' Ls (.ref a :: st) := by
  subst hpc
  exact H.same fun T locs cells slots vm0 X eT hZ hown B => castY X B.2.1 hZ hown w eT F (g := mkF x.m pc Ls (.ref a :: st)) rfl rfl (hb B.2.2.1 hd)
theorem Hr.inst {index : Nat} {C : String} {a : Addr} (H : Hr x b Z EL K S h sf pc Ls (.ref a :: st)) (w : (Jvm.Cond.classLink b.y.cls index C).before a0 Z = true) (F : Ins Z h a C true) (hd : decode b.bytes pc = .ok (.instanceof index, 3)) (hpc : pc + 3 = pc' := by rfl) : Hr x b Z EL K S h sf pc' Ls (.int 1 :: st) := by
  subst hpc
  exact H.same fun T locs cells slots vm0 X eT hZ hown B => instY X B.2.1 hZ hown w eT F (g := mkF x.m pc Ls (.ref a :: st)) rfl rfl (hb B.2.2.1 hd)
theorem Hr.initO {index : Nat} {a : Addr} (H : Hr x b Z EL K S h sf pc Ls (.ref a :: st)) (w1 : (Jvm.Cond.methodLink b.y.cls index Lib.objectInit).before a0 Z = true) (w2 : (Jvm.Cond.instanceMethod Lib.objectInit).before a0 Z = true) (w3 : (Jvm.Cond.code Lib.objectInit ⟨#[0xb1]⟩ 1 none).before a0 Z = true)
    (hd : decode b.bytes pc = .ok (.invokespecial index, 3)) (hLs : Ls.size = b.maxL := by rfl) (hf : 1 ≤ b.R.frames := by decide) {Wr : Nat} (hW : (st.map fun v => v.category).sum = Wr := by rfl) (hl : Wr + 12 ≤ b.R.locals := by decide) (hpc : pc + 3 = pc' := by rfl) : Hr x b Z EL K S h sf pc' Ls st := by
  subst hpc hW
  exact H.same fun T locs cells slots vm0 X eT hZ hown B => Jvm.RoadKit.initO X B.2.1 hZ hown w1 w2 w3 eT (g := mkF x.m pc Ls (.ref a :: st)) rfl (hLs.trans B.2.2.2.1.symm) rfl (hb B.2.2.1 hd) hf (W := (st.map fun v => v.category).sum) (by show 2 * 0 + _ ≤ _; omega) hl
theorem Hr.putF {index kk : Nat} {O n d C : String} {ty : FieldType} {a : Addr} {v old : Value} (H : Hr x b Z EL K S h sf pc Ls (v :: .ref a :: st)) (ha : a ∈ sf) (w : (Jvm.Cond.fieldLink b.y.cls index O n d).before a0 Z = true) (F : Fld Z h a O n d old) (E : Exa Z h a C)
    (L : (Jvm.Cond.lays C O n d).before a0 Z = true ∨ ((Jvm.Cond.laysFinal C O n d).before a0 Z = true ∧ b.y.cls = O ∧ b.y.name = "<init>")) (wi : (Jvm.Cond.instantiable C kk).before a0 Z = true) (hd : decode b.bytes pc = .ok (.putfield index, 3))
    (hty : parseFieldDescriptor d = some ty := by decide +kernel) (hn : narrow ty v = v := by rfl) (hf : fits ty v = true := by rfl) (hpc : pc + 3 = pc' := by rfl) :
    ∃ h', Wr h h' a (Jvm.RoadKit.slotOf Z O n d) v ∧ Hr x b Z EL K S h' sf pc' Ls st := by
  subst hpc
  exact H.write ha fun T locs cells slots vm0 X eT hZ hown B => Jvm.RoadKit.putF X B.2.1 hZ hown (host := "") (Or.inl w) Via.refl eT F E (L.imp id fun q => ⟨q.1, q.2.1, B.2.2.2.2.2.2.trans q.2.2⟩) wi hty hn hf (g := mkF x.m pc Ls (v :: .ref a :: st)) rfl rfl (hb B.2.2.1 hd)
theorem Hr.new {index n : Nat} {C : String} (H : Hr x b Z EL K S h sf pc Ls st) (w : (Jvm.Cond.classLink b.y.cls index C).before a0 Z = true) (wi : (Jvm.Cond.instantiable C n).before a0 Z = true) (wz : (Jvm.Cond.initialized C).before a0 Z = true) (hd : decode b.bytes pc = .ok (.new index, 3))
    (hc : K + 1 ≤ b.R.cells := by decide) (hl : S + n ≤ b.R.slots := by decide) (hpc : pc + 3 = pc' := by rfl) :
    ∃ h', Ext h h' ∧ (Exa Z h' h.size C ∧ (∀ {O nm d : String} {ty : FieldType}, Laid Z a0 C O nm d → parseFieldDescriptor d = some ty → Fld Z h' h.size O nm d (defaultValue ty)) ∧ Unt h' h.size) ∧ Hr x b Z EL (K + 1) (S + n) h' (h.size :: sf) pc' Ls (.ref h.size :: st) := by
  subst hpc
  refine H.alloc hc hl (P := fun h' => Exa Z h' h.size C ∧ (∀ {O nm d : String} {ty : FieldType}, Laid Z a0 C O nm d → parseFieldDescriptor d = some ty → Fld Z h' h.size O nm d (defaultValue ty)) ∧ Unt h' h.size) (fun h' q => q.1.lt) fun T locs cells slots vm0 X eT hZ hown B hc' hl' => ?_
  obtain ⟨T', h', X', e', E, A, D, U, st1⟩ := newO X B.2.1 hZ hown w wi wz eT (g := mkF x.m pc Ls st) rfl (hb B.2.2.1 hd) hc' hl'
  exact ⟨T', h', X', e', E, ⟨A, D, U⟩, st1⟩
/-! ### ends -/
theorem Hr.fin {Q : Option Value → Heap → List Addr → Prop} {v : Value} {t : FieldType} {i : Instr} {sn : List Addr} (H : Hr x b Z EL K S h sf pc Ls (v :: st)) (hd : decode b.bytes pc = .ok (i, 1)) (hret : b.ret = some t) (hn : narrow t v = v)
    (hi : (i = .ireturn ∧ (t = .int ∨ t = .boolean ∨ t = .byte ∨ t = .char ∨ t = .short) ∧ ∃ z, v = .int z) ∨ (i = .lreturn ∧ t = .long ∧ ∃ z, v = .long z) ∨ (i = .dreturn ∧ t = .double ∧ ∃ z, v = .double z) ∨ (i = .freturn ∧ t = .float ∧ ∃ z, v = .float z) ∨ (i = .areturn ∧ t.isReference = true ∧ v.isRef = true))
    (hK : K ≤ b.R.cells) (hS : S ≤ b.R.slots) (hsn : ∀ a ∈ sn, a ∈ sf) (q : Q (some v) h sn) : Ends x b Z EL Q := by
  obtain ⟨B, T, locs, cells, slots, vm0, k0, ⟨X, h1, h2, h3, h4, h5, h6, h7, h8, h9, h10, h11, h12, h13, h14⟩, k⟩ := H
  have A := CHv.at X h7 B.1.choose_spec h9.1
  obtain ⟨fs, hr, hrun, hended, hW⟩ := (X.mono (Nat.le_trans h1 hK) (Nat.le_trans h2 hS)).leaveW h5 (by rw [h3]; exact h6) (v := some v) (fun z => by rw [B.2.2.2.2.1, hret] at z; cases z) B.2.2.2.2.2.1
  refine ⟨_, _, k _ (retOut X B.2.1 (t := t) (by rw [B.2.2.2.2.1]; exact hret) hn hi (hb B.2.2.1 hd) hr), hrun, hended, some v, locs, sn, rfl, ?_, ?_, fun z hz => ?_, h4, ?_, fun hn => State.WarmedH.trans (t := x.s.setVm vm0) (h13 hn) X.warmed, hW⟩
  · show Q (some v) T.heap sn; rw [h3]; exact q
  · show Keep x.s.heap T.heap x.sf0; rw [h3]; exact h10
  · obtain ⟨z1, z2, z3, z4⟩ := h12 z (hsn z hz)
    refine ⟨z1, z2, ?_, ?_⟩
    · show z < T.heap.size; rw [h3]; exact z3
    · show Safe Z EL T.vm T.heap z; rw [h3]; exact A.safe z3 z4
  · show CHr Z EL x.s.vm x.s.heap T.vm T.heap; rw [h3]; exact h9.trans A
theorem Hr.finN {Q : Option Value → Heap → List Addr → Prop} {sn : List Addr} (H : Hr x b Z EL K S h sf pc Ls []) (hd : decode b.bytes pc = .ok (.return_, 1)) (hret : b.ret = none)
    (hK : K ≤ b.R.cells) (hS : S ≤ b.R.slots) (hsn : ∀ a ∈ sn, a ∈ sf) (q : Q none h sn) : Ends x b Z EL Q := by
  obtain ⟨B, T, locs, cells, slots, vm0, k0, ⟨X, h1, h2, h3, h4, h5, h6, h7, h8, h9, h10, h11, h12, h13, h14⟩, k⟩ := H
  have A := CHv.at X h7 B.1.choose_spec h9.1
  obtain ⟨fs, hr, hrun, hended, hW⟩ := (X.mono (Nat.le_trans h1 hK) (Nat.le_trans h2 hS)).leaveW h5 (by rw [h3]; exact h6) (v := none) (fun _ => rfl) B.2.2.2.2.2.1
  refine ⟨_, _, k _ (X.returnOut B.2.1 (by rw [B.2.2.2.2.1]; exact hret) (hb B.2.2.1 hd) hr), hrun, hended, none, locs, sn, rfl, ?_, ?_, fun z hz => ?_, h4, ?_, fun hn => State.WarmedH.trans (t := x.s.setVm vm0) (h13 hn) X.warmed, hW⟩
  · show Q none T.heap sn; rw [h3]; exact q
  · show Keep x.s.heap T.heap x.sf0; rw [h3]; exact h10
  · obtain ⟨z1, z2, z3, z4⟩ := h12 z (hsn z hz)
    refine ⟨z1, z2, ?_, ?_⟩
    · show z < T.heap.size; rw [h3]; exact z3
    · show Safe Z EL T.vm T.heap z; rw [h3]; exact A.safe z3 z4
  · show CHr Z EL x.s.vm x.s.heap T.vm T.heap; rw [h3]; exact h9.trans A
theorem Hr.finI {Q : Option Value → Heap → List Addr → Prop} {v : Int32} {sn : List Addr} (H : Hr x b Z EL K S h sf pc Ls (.int v :: st)) (hd : decode b.bytes pc = .ok (.ireturn, 1)) (q : Q (some (.int v)) h sn) (hsn : ∀ a ∈ sn, a ∈ sf) (hret : b.ret = some .int := by rfl) (hK : K ≤ b.R.cells := by decide) (hS : S ≤ b.R.slots := by decide) : Ends x b Z EL Q :=
  H.fin hd hret rfl (Or.inl ⟨rfl, Or.inl rfl, _, rfl⟩) hK hS hsn q
theorem Hr.finZ {Q : Option Value → Heap → List Addr → Prop} {v : Int32} {t : FieldType} {sn : List Addr} (H : Hr x b Z EL K S h sf pc Ls (.int v :: st)) (hd : decode b.bytes pc = .ok (.ireturn, 1)) (hn : narrow t (.int v) = .int v) (q : Q (some (.int v)) h sn) (hsn : ∀ a ∈ sn, a ∈ sf) (hret : b.ret = some t := by rfl) (ht : t = .int ∨ t = .boolean ∨ t = .byte ∨ t = .char ∨ t = .short := by simp) (hK : K ≤ b.R.cells := by decide) (hS : S ≤ b.R.slots := by decide) : Ends x b Z EL Q :=
  H.fin hd hret hn (Or.inl ⟨rfl, ht, _, rfl⟩) hK hS hsn q
theorem Hr.finA {Q : Option Value → Heap → List Addr → Prop} {v : Value} {t : FieldType} {sn : List Addr} (H : Hr x b Z EL K S h sf pc Ls (v :: st)) (hd : decode b.bytes pc = .ok (.areturn, 1)) (q : Q (some v) h sn) (hsn : ∀ a ∈ sn, a ∈ sf) (hv : v.isRef = true := by rfl) (hret : b.ret = some t := by rfl) (ht : t.isReference = true := by rfl) (hK : K ≤ b.R.cells := by decide) (hS : S ≤ b.R.slots := by decide) : Ends x b Z EL Q :=
  H.fin hd hret (by rcases ref_cases hv with rfl | ⟨a, rfl⟩ <;> cases t <;> first | rfl | cases ht) (Or.inr (Or.inr (Or.inr (Or.inr ⟨rfl, ht, hv⟩)))) hK hS hsn q
/-! ### calls -/
theorem Hr.callS {y : MethodName} {bytes : ByteArray} {maxL : Nat} {ret : Option FieldType} {rm : Room} {as' : Array Value} {sf' : List Addr} {Q : Option Value → Heap → List Addr → Prop} {index : Nat} {argsL rest : List Value} {ps : List FieldType} {rt : Option FieldType}
    (H : Hr x b Z EL K S h sf pc Ls st) (C : Ct x.l Z EL y bytes maxL ret rm as' h sf' x.nar x.kn Q) (sub : ∀ a ∈ sf', a ∈ sf)
    (w1 : (Jvm.Cond.methodLink b.y.cls index y).before a0 Z = true) (w2 : (Jvm.Cond.static y).before a0 Z = true) (w3 : (Jvm.Cond.initialized y.cls).before a0 Z = true) (w4 : (Jvm.Cond.code y bytes maxL ret).before a0 Z = true)
    (hd : decode b.bytes pc = .ok (.invokestatic index, 3)) (hp : parseMethodDescriptor y.desc = some ⟨ps, rt⟩) (hst : st = argsL.reverse ++ rest) (has : argsL.toArray = as' := by rfl) (hl2 : argsL.length = ps.length := by rfl) (hy : y.cls ≠ "java/lang/invoke/MethodHandle" ∧ y.cls ≠ "java/lang/invoke/VarHandle" := by decide)
    (hf : rm.frames + 1 ≤ b.R.frames := by decide) {Wr : Nat} (hW : (rest.map fun v => v.category).sum = Wr := by rfl) (hl : Wr + (maxL + 11) + rm.locals ≤ b.R.locals := by decide) (hc : K + rm.cells ≤ b.R.cells := by decide) (hs : S + rm.slots ≤ b.R.slots := by decide) (hLs : Ls.size = b.maxL := by rfl) (hpc : pc + 3 = pc' := by rfl) :
    ∃ (v : Option Value) (h' : Heap) (sn : List Addr), Q v h' sn ∧ Keep h h' sf' ∧ Hr x b Z EL (K + rm.cells) (S + rm.slots) h' (sn ++ sf) pc' Ls (v.toList ++ rest) := by
  subst has hpc hW
  obtain ⟨B, T, locs, cells, slots, vm0, k0, X, k⟩ := H
  have X2 := X
  obtain ⟨X1, h1, h2, h3, h4, h5, h6, h7, h8, h9, h10, h11, h12, h13, h14⟩ := X2
  obtain ⟨v, vm₁, P, -, X', hS, hgr, hp', hsteps⟩ := callSS X1 B.2.1 (own := b.y.cls) h8 (mvT h7 w1) (mvT h7 w2) (mvT h7 w3) (mvT h7 w4) hy
    (C.backS (W := (rest.map fun v => v.category).sum) h7 w4 w3 hf hl B.1.choose_spec h9.1 h11 (fun z hz => (h12 z (sub z hz)).2) h14)
    (g := mkF x.m pc Ls st) rfl (hLs.trans B.2.2.2.1.symm) (argsL := argsL) (rest := rest) (lenOf hp hl2) hst (by show 2 * 0 + _ ≤ _; omega) (hb B.2.2.1 hd) (fun vm₁ _ => ⟨rfl, h3, by show cells + _ ≤ _; omega, by show slots + _ ≤ _; omega⟩)
  obtain ⟨h', sn, r1, r2, r3⟩ := Hr.after (rm := rm) (sf' := sf') (Q := Q) B X k sub X' hS hgr hp' hsteps
  exact ⟨v, h', sn, r1, r2, r3⟩
theorem Hr.callI {y : MethodName} {bytes : ByteArray} {maxL : Nat} {rm : Room} {as' : Array Value} {sf' : List Addr} {Q : Option Value → Heap → List Addr → Prop} {index : Nat} {a : Addr} {argsL rest : List Value} {ps : List FieldType} {rt : Option FieldType}
    (H : Hr x b Z EL K S h sf pc Ls st) (C : Ct x.l Z EL y bytes maxL none rm as' h sf' x.nar x.kn Q) (sub : ∀ a ∈ sf', a ∈ sf)
    (w1 : (Jvm.Cond.methodLink b.y.cls index y).before a0 Z = true) (w2 : (Jvm.Cond.instanceMethod y).before a0 Z = true) (w3 : (Jvm.Cond.initialized y.cls).before a0 Z = true) (w4 : (Jvm.Cond.code y bytes maxL none).before a0 Z = true)
    (hd : decode b.bytes pc = .ok (.invokespecial index, 3)) (hp : parseMethodDescriptor y.desc = some ⟨ps, rt⟩) (hst : st = argsL.reverse ++ .ref a :: rest) (has : (Value.ref a :: argsL).toArray = as' := by rfl) (hl2 : argsL.length = ps.length := by rfl) (hy1 : y.name = "<init>" := by rfl) (hy : y.cls ≠ "java/lang/invoke/MethodHandle" ∧ y.cls ≠ "java/lang/invoke/VarHandle" := by decide)
    (hf : rm.frames + 1 ≤ b.R.frames := by decide) {Wr : Nat} (hW : (rest.map fun v => v.category).sum = Wr := by rfl) (hl : Wr + (maxL + 11) + rm.locals ≤ b.R.locals := by decide) (hc : K + rm.cells ≤ b.R.cells := by decide) (hs : S + rm.slots ≤ b.R.slots := by decide) (hLs : Ls.size = b.maxL := by rfl) (hpc : pc + 3 = pc' := by rfl) :
    ∃ (v : Option Value) (h' : Heap) (sn : List Addr), Q v h' sn ∧ Keep h h' sf' ∧ Hr x b Z EL (K + rm.cells) (S + rm.slots) h' (sn ++ sf) pc' Ls (v.toList ++ rest) := by
  subst has hpc hW
  obtain ⟨B, T, locs, cells, slots, vm0, k0, X, k⟩ := H
  have X2 := X
  obtain ⟨X1, h1, h2, h3, h4, h5, h6, h7, h8, h9, h10, h11, h12, h13, h14⟩ := X2
  obtain ⟨v, vm₁, P, -, X', hS, hgr, hp', hsteps⟩ := X1.specialBackS B.2.1 hy1 h8 (mvT h7 w1) (mvT h7 w2) (mvT h7 w4) hy
    (C.backS (W := (rest.map fun v => v.category).sum) h7 w4 w3 hf hl B.1.choose_spec h9.1 h11 (fun z hz => (h12 z (sub z hz)).2) h14)
    (g := mkF x.m pc Ls st) rfl (hLs.trans B.2.2.2.1.symm) (Steps.refl _) (a := a) (argsL := argsL) (rest := rest) (lenOf hp hl2) hst (by show 2 * 0 + _ ≤ _; omega) (hb B.2.2.1 hd) (fun vm₁ _ => ⟨rfl, h3, by show cells + _ ≤ _; omega, by show slots + _ ≤ _; omega⟩)
  obtain ⟨h', sn, r1, r2, r3⟩ := Hr.after (rm := rm) (sf' := sf') (Q := Q) B X k sub X' hS hgr hp' hsteps
  exact ⟨v, h', sn, r1, r2, r3⟩
theorem notFace_by {s : State} {args : Array Value} {C : String} {y y' : MethodName} (ws : (Jvm.Cond.selects C y' y').before args s = true) (hc : y'.cls = y.cls) : NotFace s y := fun r0 h0 => by
  obtain ⟨c2, r2, m2, -, -, q3, -, kP, hkP, hkPi⟩ := Cond.selects_spec ws
  have h1 := findClass_of_methodNamed h0
  have h2 := findClass_of_methodNamed q3
  rw [hc, h1] at h2
  have e : r0.cls = m2.cls := Option.some.inj h2
  rw [← e] at hkP
  exact ⟨kP, hkP, hkPi⟩
theorem Hr.callV {y y' z : MethodName} {bytes : ByteArray} {maxL : Nat} {ret : Option FieldType} {rm : Room} {as' : Array Value} {sf' : List Addr} {Q : Option Value → Heap → List Addr → Prop} {index : Nat} {a : Addr} {cls cls' : String} {argsL rest : List Value} {ps : List FieldType} {rt : Option FieldType}
    (H : Hr x b Z EL K S h sf pc Ls st) (C : Ct x.l Z EL z bytes maxL ret rm as' h sf' x.nar x.kn Q) (sub : ∀ a ∈ sf', a ∈ sf) (E : Exa Z h a cls)
    (w1 : (Jvm.Cond.methodLink b.y.cls index y).before a0 Z = true) (w2 : (Jvm.Cond.declares y).before a0 Z = true) (wn : (Jvm.Cond.selects cls' y' y').before a0 Z = true) (ws : (Jvm.Cond.selects cls y z).before a0 Z = true) (wi : (Jvm.Cond.instanceMethod z).before a0 Z = true) (w3 : (Jvm.Cond.initialized z.cls).before a0 Z = true) (w4 : (Jvm.Cond.code z bytes maxL ret).before a0 Z = true)
    (hd : decode b.bytes pc = .ok (.invokevirtual index, 3)) (hp : parseMethodDescriptor y.desc = some ⟨ps, rt⟩) (hst : st = argsL.reverse ++ .ref a :: rest) (hyc : y'.cls = y.cls := by rfl) (has : (Value.ref a :: argsL).toArray = as' := by rfl) (hl2 : argsL.length = ps.length := by rfl) (hy : y.cls ≠ "java/lang/invoke/MethodHandle" ∧ y.cls ≠ "java/lang/invoke/VarHandle" := by decide)
    (hf : rm.frames + 1 ≤ b.R.frames := by decide) {Wr : Nat} (hW : (rest.map fun v => v.category).sum = Wr := by rfl) (hl : Wr + (maxL + 11) + rm.locals ≤ b.R.locals := by decide) (hc : K + rm.cells ≤ b.R.cells := by decide) (hs : S + rm.slots ≤ b.R.slots := by decide) (hLs : Ls.size = b.maxL := by rfl) (hpc : pc + 3 = pc' := by rfl) :
    ∃ (v : Option Value) (h' : Heap) (sn : List Addr), Q v h' sn ∧ Keep h h' sf' ∧ Hr x b Z EL (K + rm.cells) (S + rm.slots) h' (sn ++ sf) pc' Ls (v.toList ++ rest) := by
  subst has hpc hW
  obtain ⟨B, T, locs, cells, slots, vm0, k0, X, k⟩ := H
  have X2 := X
  obtain ⟨X1, h1, h2, h3, h4, h5, h6, h7, h8, h9, h10, h11, h12, h13, h14⟩ := X2
  obtain ⟨cB, kB, i1, i2, i3⟩ := isOf (s := x.s.setVm vm0) (T := T) h7 h3 E
  obtain ⟨v, vm₁, P, -, X', hS, hgr, hp', hsteps⟩ := X1.virtualBackS B.2.1 (y := y) (z := z) h8 (mvT h7 w1) (mvT h7 w2) (notFace_by (args := #[]) (mvT h7 wn) hyc) (mvT h7 ws) (mvT h7 wi) hy
    (C.backS (W := (rest.map fun v => v.category).sum) h7 w4 w3 hf hl B.1.choose_spec h9.1 h11 (fun z hz => (h12 z (sub z hz)).2) h14) i1 i3
    (g := mkF x.m pc Ls st) rfl (hLs.trans B.2.2.2.1.symm) (Steps.refl _) (argsL := argsL) (rest := rest) (lenOf hp hl2) hst (by show 2 * 0 + _ ≤ _; omega) (hb B.2.2.1 hd) (fun vm₁ _ => ⟨rfl, h3, by show cells + _ ≤ _; omega, by show slots + _ ≤ _; omega⟩)
  obtain ⟨h', sn, r1, r2, r3⟩ := Hr.after (rm := rm) (sf' := sf') (Q := Q) B X k sub X' hS hgr hp' hsteps
  exact ⟨v, h', sn, r1, r2, r3⟩
end Layer2
end Jvm.Pilot.@@N@@
namespace Jvm.Pilot.@@N@@
open Jvm Jvm.ClassFile Sem Op Lib Bundle Jvm.Free Jvm.Stand Jvm.LawKit Jvm.RoadKit
section Layer3
variable {x : Cx} {b : Bx} {Z : State} {EL : List (String × Nat)} {K S : Nat} {h h' : Heap} {sf : List Addr} {pc pc' : Nat} {Ls Ls' : Array Slot} {st st' : List Value} {a0 : Array Value}
/-- an array and all that it holds -/
def Ar (Z : State) (h : Heap) (a : Addr) (ty : FieldType) (vs : List Value) : Prop := ∃ c : Cell, Arr Z h a c ty ∧ c.slots.toList = vs ∧ vs.length < 2147483648
variable {a d : Addr} {ty : FieldType} {vs : List Value} {ws : List Addr} {sl : Nat} {v : Value}
theorem neN {p q : Addr} (h : @Ne Nat p q) : p ≠ q := h
theorem exa_lt {C : String} (F : Exa Z h a C) : h.size > a := F.lt
theorem fld_lt {C n d : String} (F : Fld Z h a C n d v) : h.size > a := F.lt
theorem Ar.lt (F : Ar Z h a ty vs) : h.size > a := by obtain ⟨c, A, -⟩ := F; exact A.lt
theorem Ar.len (F : Ar Z h a ty vs) : vs.length < 2147483648 := by obtain ⟨c, A, -, q⟩ := F; exact q
theorem Ar.ext (F : Ar Z h a ty vs) (E : Ext h h') : Ar Z h' a ty vs := by obtain ⟨c, A, r⟩ := F; exact ⟨c, A.ext E, r⟩
theorem Ar.keep (F : Ar Z h a ty vs) (K : Keep h h' ws) (q : a ∉ ws) : Ar Z h' a ty vs := by obtain ⟨c, A, r⟩ := F; exact ⟨c, ⟨K.2.1 a c A.1 q, A.2⟩, r⟩
theorem Ar.other (F : Ar Z h a ty vs) (W : Wr h h' d sl v) (q : a ≠ d) : Ar Z h' a ty vs := by obtain ⟨c, A, r⟩ := F; exact ⟨c, A.other W q, r⟩
theorem Ar.set (F : Ar Z h a ty vs) (W : Wr h h' a sl v) : Ar Z h' a ty (vs.set sl v) := by
  obtain ⟨c, A, r1, r2⟩ := F
  exact ⟨_, A.same W, by subst r1; simp [Cell.setSlot], by simpa using r2⟩
theorem Ar.of_new {k : ClassId} {n : Int32} (A : Arr Z h a (newA k ty n) ty) (hn : ¬ n < 0) : Ar Z h a ty (List.replicate n.toNatClampNeg (defaultValue ty)) :=
  ⟨_, A, by simp [newA], by have := (back32 hn).2; simpa using this⟩
theorem Ar.of_arv {k : ClassId} {z : Int32} {dv : Value} (F : Arv Z h a k ty z vs dv) (hz : z.toNatClampNeg = vs.length) : Ar Z h a ty vs := by
  obtain ⟨c, A, -, r2, r3, r4, -⟩ := F
  refine ⟨c, A, ?_, by have := (back32 r3).2; omega⟩
  apply List.ext_getElem?
  intro i
  by_cases hi : i < vs.length
  · have := r4 i (by omega)
    rw [Array.getElem?_toList, this]
    simp [List.getD, hi]
  · rw [List.getElem?_eq_none (by rw [Array.length_toList]; omega), List.getElem?_eq_none (by omega)]
theorem Ar.at {c : Cell} {i : Nat} {j : Int32} (hc : c.slots.toList = vs) (hl : vs.length < 2147483648) (hj : j = Int32.ofNat i) (hv : vs[i]? = some v) : ¬ (j < 0 ∨ c.slots.size ≤ j.toNatClampNeg) ∧ j.toNatClampNeg = i ∧ c.slots[j.toNatClampNeg]? = some v := by
  obtain ⟨hi, -⟩ := List.getElem?_eq_some_iff.mp hv
  have hs : c.slots.size = vs.length := by rw [← hc, Array.length_toList]
  have h2 : j.toNatClampNeg = i := clamp_of hj (by omega)
  exact ⟨by rw [hs]; exact within hj hi (by omega), h2, by rw [h2, ← Array.getElem?_toList, hc]; exact hv⟩
theorem Hr.arraylength {n : Int32} (H : Hr x b Z EL K S h sf pc Ls (.ref a :: st)) (A : Ar Z h a ty vs) (hd : decode b.bytes pc = .ok (.arraylength, 1)) (hn : Int32.ofNat vs.length = n := by rfl) (hpc : pc + 1 = pc' := by rfl) : Hr x b Z EL K S h sf pc' Ls (.int n :: st) := by
  subst hpc hn
  obtain ⟨c, A1, r1, r2⟩ := A
  refine H.same fun T locs cells slots vm0 X eT hZ hown B => ⟨T, X, eT, fun t q => X.arraylength B.2.1 (cell := c) (ty := ty) (by rw [eT]; exact A1.1) (State.isArrayOf_alike hZ.alike A1.2.1) (g := mkF x.m pc Ls (.ref a :: st)) rfl rfl (hb B.2.2.1 hd) t ?_⟩
  have e : c.slots.size.toInt32 = Int32.ofNat vs.length := by rw [← r1, Array.length_toList]
  rw [e]; exact q
theorem Hr.caload {i : Nat} {j : Int32} (H : Hr x b Z EL K S h sf pc Ls (.int j :: .ref a :: st)) (A : Ar Z h a .char vs) (hd : decode b.bytes pc = .ok (.caload, 1)) (hj : j = Int32.ofNat i) (hv : vs[i]? = some v) (hpc : pc + 1 = pc' := by rfl) : Hr x b Z EL K S h sf pc' Ls (v :: st) := by
  subst hpc
  obtain ⟨c, A1, r1, r2⟩ := A
  obtain ⟨q1, q2, q3⟩ := Ar.at r1 r2 hj hv
  exact H.same fun T locs cells slots vm0 X eT hZ hown B => ⟨T, X, eT, fun t q => X.caload B.2.1 (cell := c) (by rw [eT]; exact A1.1) (State.isArrayOf_alike hZ.alike A1.2.1) A1.2.2 q1 q3 (g := mkF x.m pc Ls (.int j :: .ref a :: st)) rfl rfl (hb B.2.2.1 hd) t q⟩
theorem Hr.baload {i : Nat} {j : Int32} (H : Hr x b Z EL K S h sf pc Ls (.int j :: .ref a :: st)) (A : Ar Z h a .byte vs) (hd : decode b.bytes pc = .ok (.baload, 1)) (hj : j = Int32.ofNat i) (hv : vs[i]? = some v) (hpc : pc + 1 = pc' := by rfl) : Hr x b Z EL K S h sf pc' Ls (v :: st) := by
  subst hpc
  obtain ⟨c, A1, r1, r2⟩ := A
  obtain ⟨q1, q2, q3⟩ := Ar.at r1 r2 hj hv
  exact H.same fun T locs cells slots vm0 X eT hZ hown B => ⟨T, X, eT, fun t q => X.baloadBytes B.2.1 (cell := c) (by rw [eT]; exact A1.1) (State.isArrayOf_alike hZ.alike A1.2.1) A1.2.2 q1 q3 (g := mkF x.m pc Ls (.int j :: .ref a :: st)) rfl rfl (hb B.2.2.1 hd) t q⟩
theorem Hr.iaload {i : Nat} {j : Int32} (H : Hr x b Z EL K S h sf pc Ls (.int j :: .ref a :: st)) (A : Ar Z h a .int vs) (hd : decode b.bytes pc = .ok (.iaload, 1)) (hj : j = Int32.ofNat i) (hv : vs[i]? = some v) (hpc : pc + 1 = pc' := by rfl) : Hr x b Z EL K S h sf pc' Ls (v :: st) := by
  subst hpc
  obtain ⟨c, A1, r1, r2⟩ := A
  obtain ⟨q1, q2, q3⟩ := Ar.at r1 r2 hj hv
  exact H.same fun T locs cells slots vm0 X eT hZ hown B => ⟨T, X, eT, fun t q => X.iaload B.2.1 (cell := c) (by rw [eT]; exact A1.1) (State.isArrayOf_alike hZ.alike A1.2.1) A1.2.2 q1 q3 (g := mkF x.m pc Ls (.int j :: .ref a :: st)) rfl rfl (hb B.2.2.1 hd) t q⟩
theorem Hr.aaload {i : Nat} {j : Int32} (H : Hr x b Z EL K S h sf pc Ls (.int j :: .ref a :: st)) (A : Ar Z h a ty vs) (hd : decode b.bytes pc = .ok (.aaload, 1)) (hj : j = Int32.ofNat i) (hv : vs[i]? = some v) (hty : ty.isReference = true := by rfl) (hpc : pc + 1 = pc' := by rfl) : Hr x b Z EL K S h sf pc' Ls (v :: st) := by
  subst hpc
  obtain ⟨c, A1, r1, r2⟩ := A
  obtain ⟨q1, q2, q3⟩ := Ar.at r1 r2 hj hv
  exact H.same fun T locs cells slots vm0 X eT hZ hown B => ⟨T, X, eT, fun t q => X.aaload B.2.1 (cell := c) (by rw [eT]; exact A1.1) (State.isArrayOf_alike hZ.alike A1.2.1) hty A1.2.2 q1 q3 (g := mkF x.m pc Ls (.int j :: .ref a :: st)) rfl rfl (hb B.2.2.1 hd) t q⟩
theorem Hr.castore {i : Nat} {j u w : Int32} (H : Hr x b Z EL K S h sf pc Ls (.int u :: .int j :: .ref a :: st)) (ha : a ∈ sf) (A : Ar Z h a .char vs) (hd : decode b.bytes pc = .ok (.castore, 1)) (hj : j = Int32.ofNat i) (hi : i < vs.length) (hw : nar .char u = w := by rfl) (hpc : pc + 1 = pc' := by rfl) :
    ∃ h', Wr h h' a i (.int w) ∧ Hr x b Z EL K S h' sf pc' Ls st := by
  subst hpc hw
  obtain ⟨c, A1, r1, r2⟩ := A
  obtain ⟨q1, q2, q3⟩ := Ar.at r1 r2 hj (List.getElem?_eq_getElem hi)
  rw [← q2]
  exact H.write ha fun T locs cells slots vm0 X eT hZ hown B => stC X B.2.1 hZ eT A1 q1 (g := mkF x.m pc Ls (.int u :: .int j :: .ref a :: st)) rfl rfl (hb B.2.2.1 hd)
theorem Hr.bastore {i : Nat} {j u w : Int32} (H : Hr x b Z EL K S h sf pc Ls (.int u :: .int j :: .ref a :: st)) (ha : a ∈ sf) (A : Ar Z h a .byte vs) (hd : decode b.bytes pc = .ok (.bastore, 1)) (hj : j = Int32.ofNat i) (hi : i < vs.length) (hw : nar .byte u = w := by rfl) (hpc : pc + 1 = pc' := by rfl) :
    ∃ h', Wr h h' a i (.int w) ∧ Hr x b Z EL K S h' sf pc' Ls st := by
  subst hpc hw
  obtain ⟨c, A1, r1, r2⟩ := A
  obtain ⟨q1, q2, q3⟩ := Ar.at r1 r2 hj (List.getElem?_eq_getElem hi)
  rw [← q2]
  exact H.write ha fun T locs cells slots vm0 X eT hZ hown B => stB X B.2.1 hZ eT A1 q1 (g := mkF x.m pc Ls (.int u :: .int j :: .ref a :: st)) rfl rfl (hb B.2.2.1 hd)
theorem Hr.iastore {i : Nat} {j u : Int32} (H : Hr x b Z EL K S h sf pc Ls (.int u :: .int j :: .ref a :: st)) (ha : a ∈ sf) (A : Ar Z h a .int vs) (hd : decode b.bytes pc = .ok (.iastore, 1)) (hj : j = Int32.ofNat i) (hi : i < vs.length) (hpc : pc + 1 = pc' := by rfl) :
    ∃ h', Wr h h' a i (.int u) ∧ Hr x b Z EL K S h' sf pc' Ls st := by
  subst hpc
  obtain ⟨c, A1, r1, r2⟩ := A
  obtain ⟨q1, q2, q3⟩ := Ar.at r1 r2 hj (List.getElem?_eq_getElem hi)
  rw [← q2]
  exact H.write ha fun T locs cells slots vm0 X eT hZ hown B => stI X B.2.1 hZ eT A1 q1 (g := mkF x.m pc Ls (.int u :: .int j :: .ref a :: st)) rfl rfl (hb B.2.2.1 hd)
theorem Hr.newarray {aty : ArrayType} {n : Int32} {cap : Nat} (H : Hr x b Z EL K S h sf pc Ls (.int n :: st)) (w : (Jvm.Cond.arrayClass (newarray.typeOf aty)).before a0 Z = true) (hd : decode b.bytes pc = .ok (.newarray aty, 2)) (hn : ¬ n < 0) (hcap : n.toNatClampNeg ≤ cap) (hb8 : cap * 8 ≤ 536870912)
    (hc : K + 1 ≤ b.R.cells := by decide) (hl : S + cap ≤ b.R.slots := by decide) (hpc : pc + 2 = pc' := by rfl) :
    ∃ h', Ext h h' ∧ Ar Z h' h.size (newarray.typeOf aty) (List.replicate n.toNatClampNeg (defaultValue (newarray.typeOf aty))) ∧ Hr x b Z EL (K + 1) (S + cap) h' (h.size :: sf) pc' Ls (.ref h.size :: st) := by
  subst hpc
  refine H.alloc hc hl (P := fun h' => Ar Z h' h.size (newarray.typeOf aty) (List.replicate n.toNatClampNeg (defaultValue (newarray.typeOf aty)))) (fun h' q => q.lt) fun T locs cells slots vm0 X eT hZ hown B hc' hl' => ?_
  obtain ⟨T', h', cA, X', e', E, A, st1⟩ := newP X B.2.1 hZ w eT (g := mkF x.m pc Ls (.int n :: st)) rfl (hb B.2.2.1 hd) rfl hn hcap hb8 hc' hl'
  exact ⟨T', h', X', e', E, Ar.of_new A hn, st1⟩
/-! ### Strings -/
abbrev ST : String := "java/lang/String"
/-- a Latin-1 String: its value array lies at t and holds the bytes bs -/
def Str (Z : State) (h : Heap) (a t : Addr) (bs : List Int32) : Prop := Exa Z h a ST ∧ Fld Z h a ST "coder" "B" (.int 0) ∧ Fld Z h a ST "value" "[B" (.ref t) ∧ Ar Z h t .byte (bs.map Value.int)
variable {t : Addr} {bs : List Int32}
theorem Str.ext (F : Str Z h a t bs) (E : Ext h h') : Str Z h' a t bs := ⟨F.1.ext E, F.2.1.ext E, F.2.2.1.ext E, F.2.2.2.ext E⟩
theorem Str.keep (F : Str Z h a t bs) (K : Keep h h' ws) (q : a ∉ ws) (q' : t ∉ ws) : Str Z h' a t bs := ⟨F.1.keep K, F.2.1.keep K q, F.2.2.1.keep K q, F.2.2.2.keep K q'⟩
theorem Str.other (F : Str Z h a t bs) (W : Wr h h' d sl v) (q : a ≠ d) (q' : t ≠ d) : Str Z h' a t bs := ⟨F.1.wr W, F.2.1.other W (Or.inl q), F.2.2.1.other W (Or.inl q), F.2.2.2.other W q'⟩
theorem Str.lt (F : Str Z h a t bs) : h.size > a := F.1.lt
theorem Str.lt' (F : Str Z h a t bs) : h.size > t := F.2.2.2.lt
theorem Str.len (F : Str Z h a t bs) : bs.length < 2147483648 := by have := F.2.2.2.len; simpa using this
/-- ldc of a String constant, its text read -/
theorem Hr.ldcS {index n : Nat} {text : String} {z : Int32} (H : Hr x b Z EL K S h sf pc Ls st) (w : (Jvm.Cond.stringLink b.y.cls index text).before a0 Z = true) (wS : ∀ d ∈ Bundle.stringAtoms, d.before a0 Z = true) (hEL : EW Z a0 EL) (hmem : (b.y.cls, index) ∈ EL)
    (ht : (∀ c ∈ text.toList, c.toNat < 256) ∧ text.toList.map (fun c => Jvm.Lit.byteI c.toNat.toUInt16) = bs) (hz : ¬ z < 0) (hl : z.toNatClampNeg = bs.length) (hd : decode b.bytes pc = .ok (.ldc index, 2)) (hn : 4 * text.toList.length ≤ n) (hbig : n ≤ 536870912)
    (hnar : x.nar = false) (hc : K + 2 ≤ b.R.cells := by decide) (hl' : S + (n + 4) ≤ b.R.slots := by decide) (hpc : pc + 2 = pc' := by rfl) :
    ∃ (a t : Addr) (h' : Heap), Ext h h' ∧ Str Z h' a t bs ∧ (∀ y ∈ sf, y ≠ a ∧ y ≠ t) ∧ Hr x b Z EL (K + 2) (S + (n + 4)) h' sf pc' Ls (.ref a :: st) := by
  subst hpc
  obtain ⟨B, T, locs, cells, slots, vm0, k0, ⟨X, h1, h2, h3, h4, h5, h6, h7, h8, h9, h10, h11, h12, h13, h14⟩, k⟩ := H
  obtain ⟨a, T', h', k1, b', kc, X', e', E, hS, hk, hW, hf, g1, g2, g3, g4, g5, g6, hC, -, hsafe, st1⟩ := ldcCH X B.2.1 h7 h8 w wS h3 h5 h6 hEL hmem h9.1 (vs := bs.map Value.int) ⟨ht.1, by rw [← ht.2]; simp⟩ hz (by simpa using hl) (g := mkF x.m pc Ls st) rfl (hb B.2.2.1 hd) hn hbig (by omega) (by omega)
  have hm : ∀ y ∈ sf, Mine x Z EL T'.vm h' y := fun y hy => by
    obtain ⟨y1, y2, y3, y4⟩ := h12 y hy
    exact ⟨y1, y2, Nat.lt_of_lt_of_le y3 E.1, hC.safe y3 y4⟩
  refine ⟨a, b', h', E, ⟨g1, g2, g3, Ar.of_arv g4 (by simpa using hl)⟩, fun y hy => hsafe y (hm y hy).2.2.2, B, T', locs, _, _, T'.vm, k1, ⟨X', by omega, by omega, e', h4, hS, hk, hW, hf, h9.trans hC, h10.ext E, Ext.tr h11 E, hm, fun hn => ?_, fun hk => ?_⟩, fun t q => k t (st1 t q)⟩
  · rw [hnar] at hn; cases hn
  · have hal : vm0.Alike T'.vm := h7.alike.symm.trans hW.alike
    exact ⟨Vm.MethodsKnown.alikeC hal (h14 hk).1, Vm.FramesKnown.alikeC hal (h14 hk).2⟩
end Layer3
end Jvm.Pilot.@@N@@
namespace Jvm.Pilot.@@N@@
open Jvm Jvm.ClassFile Sem Op Lib Bundle Jvm.Free Jvm.Stand Jvm.LawKit Jvm.RoadKit Jvm.Pilot.@@N@@.Jvm.D
theorem w0 {a0 : Array Value} {Z : State} (hw : ∀ d ∈ tables_1, d.before a0 Z = true) : ((Jvm.Cond.constant "com/example/strict_mapper/strictmapper/query/TokenIsSymbolPinLaw" (36 : Nat) (2147483647 : Int32)) : Jvm.Cond).before a0 Z = true := hw _ (List.mem_of_getElem? (i := 0) rfl)
theorem w1 {a0 : Array Value} {Z : State} (hw : ∀ d ∈ tables_1, d.before a0 Z = true) : ((Jvm.Cond.methodLink "com/example/strict_mapper/strictmapper/query/TokenIsSymbolPinLaw" (37 : Nat) ({ cls := "com/example/strict_mapper/strictmapper/query/TokenIsSymbolPinLaw", name := "kindOf", desc := "(I)Lcom/example/strict_mapper/strictmapper/query/JpqlLexer$Kind;" } : Jvm.MethodName)) : Jvm.Cond).before a0 Z = true := hw _ (List.mem_of_getElem? (i := 1) rfl)
theorem w2 {a0 : Array Value} {Z : State} (hw : ∀ d ∈ tables_1, d.before a0 Z = true) : ((Jvm.Cond.static ({ cls := "com/example/strict_mapper/strictmapper/query/TokenIsSymbolPinLaw", name := "kindOf", desc := "(I)Lcom/example/strict_mapper/strictmapper/query/JpqlLexer$Kind;" } : Jvm.MethodName)) : Jvm.Cond).before a0 Z = true := hw _ (List.mem_of_getElem? (i := 2) rfl)
theorem w3 {a0 : Array Value} {Z : State} (hw : ∀ d ∈ tables_1, d.before a0 Z = true) : ((Jvm.Cond.initialized "com/example/strict_mapper/strictmapper/query/TokenIsSymbolPinLaw") : Jvm.Cond).before a0 Z = true := hw _ (List.mem_of_getElem? (i := 3) rfl)
theorem w4 {a0 : Array Value} {Z : State} (hw : ∀ d ∈ tables_1, d.before a0 Z = true) : ((Jvm.Cond.code ({ cls := "com/example/strict_mapper/strictmapper/query/TokenIsSymbolPinLaw", name := "kindOf", desc := "(I)Lcom/example/strict_mapper/strictmapper/query/JpqlLexer$Kind;" } : Jvm.MethodName) method_2_code (1 : Nat) (Option.some (Jvm.ClassFile.FieldType.object "com/example/strict_mapper/strictmapper/query/JpqlLexer$Kind"))) : Jvm.Cond).before a0 Z = true := hw _ (List.mem_of_getElem? (i := 4) rfl)
theorem w5 {a0 : Array Value} {Z : State} (hw : ∀ d ∈ tables_1, d.before a0 Z = true) : ((Jvm.Cond.fieldLink "com/example/strict_mapper/strictmapper/query/TokenIsSymbolPinLaw" (7 : Nat) "com/example/strict_mapper/strictmapper/query/JpqlLexer$Kind" "WORD" "Lcom/example/strict_mapper/strictmapper/query/JpqlLexer$Kind;") : Jvm.Cond).before a0 Z = true := hw _ (List.mem_of_getElem? (i := 5) rfl)
theorem w6 {a0 : Array Value} {Z : State} (hw : ∀ d ∈ tables_1, d.before a0 Z = true) : ((Jvm.Cond.initialized "com/example/strict_mapper/strictmapper/query/JpqlLexer$Kind") : Jvm.Cond).before a0 Z = true := hw _ (List.mem_of_getElem? (i := 6) rfl)
theorem w7 {a0 : Array Value} {Z : State} (hw : ∀ d ∈ tables_1, d.before a0 Z = true) : ((Jvm.Cond.laysStatic "com/example/strict_mapper/strictmapper/query/JpqlLexer$Kind" "WORD" "Lcom/example/strict_mapper/strictmapper/query/JpqlLexer$Kind;") : Jvm.Cond).before a0 Z = true := hw _ (List.mem_of_getElem? (i := 7) rfl)
theorem w8 {a0 : Array Value} {Z : State} (hw : ∀ d ∈ tables_1, d.before a0 Z = true) : ((Jvm.Cond.methodLink "com/example/strict_mapper/strictmapper/query/TokenIsSymbolPinLaw" (43 : Nat) ({ cls := "com/example/strict_mapper/strictmapper/query/TokenIsSymbolPinLaw", name := "str", desc := "(ICC)Ljava/lang/String;" } : Jvm.MethodName)) : Jvm.Cond).before a0 Z = true := hw _ (List.mem_of_getElem? (i := 8) rfl)
theorem w9 {a0 : Array Value} {Z : State} (hw : ∀ d ∈ tables_1, d.before a0 Z = true) : ((Jvm.Cond.static ({ cls := "com/example/strict_mapper/strictmapper/query/TokenIsSymbolPinLaw", name := "str", desc := "(ICC)Ljava/lang/String;" } : Jvm.MethodName)) : Jvm.Cond).before a0 Z = true := hw _ (List.mem_of_getElem? (i := 9) rfl)
theorem w10 {a0 : Array Value} {Z : State} (hw : ∀ d ∈ tables_1, d.before a0 Z = true) : ((Jvm.Cond.code ({ cls := "com/example/strict_mapper/strictmapper/query/TokenIsSymbolPinLaw", name := "str", desc := "(ICC)Ljava/lang/String;" } : Jvm.MethodName) method_3_code (3 : Nat) (Option.some (Jvm.ClassFile.FieldType.object "java/lang/String"))) : Jvm.Cond).before a0 Z = true := hw _ (List.mem_of_getElem? (i := 10) rfl)
theorem w11 {a0 : Array Value} {Z : State} (hw : ∀ d ∈ tables_1, d.before a0 Z = true) : ((Jvm.Cond.classLink "com/example/strict_mapper/strictmapper/query/TokenIsSymbolPinLaw" (31 : Nat) "java/lang/String") : Jvm.Cond).before a0 Z = true := hw _ (List.mem_of_getElem? (i := 11) rfl)
theorem w12 {a0 : Array Value} {Z : State} (hw : ∀ d ∈ tables_1, d.before a0 Z = true) : ((Jvm.Cond.instantiable "java/lang/String" (4 : Nat)) : Jvm.Cond).before a0 Z = true := hw _ (List.mem_of_getElem? (i := 12) rfl)
theorem w13 {a0 : Array Value} {Z : State} (hw : ∀ d ∈ tables_1, d.before a0 Z = true) : ((Jvm.Cond.initialized "java/lang/String") : Jvm.Cond).before a0 Z = true := hw _ (List.mem_of_getElem? (i := 13) rfl)
theorem w14 {a0 : Array Value} {Z : State} (hw : ∀ d ∈ tables_1, d.before a0 Z = true) : ((Jvm.Cond.arrayClass Jvm.ClassFile.FieldType.char) : Jvm.Cond).before a0 Z = true := hw _ (List.mem_of_getElem? (i := 14) rfl)
theorem w15 {a0 : Array Value} {Z : State} (hw : ∀ d ∈ tables_1, d.before a0 Z = true) : ((Jvm.Cond.methodLink "com/example/strict_mapper/strictmapper/query/TokenIsSymbolPinLaw" (33 : Nat) ({ cls := "java/lang/String", name := "<init>", desc := "([C)V" } : Jvm.MethodName)) : Jvm.Cond).before a0 Z = true := hw _ (List.mem_of_getElem? (i := 15) rfl)
theorem w16 {a0 : Array Value} {Z : State} (hw : ∀ d ∈ tables_1, d.before a0 Z = true) : ((Jvm.Cond.instanceMethod ({ cls := "java/lang/String", name := "<init>", desc := "([C)V" } : Jvm.MethodName)) : Jvm.Cond).before a0 Z = true := hw _ (List.mem_of_getElem? (i := 16) rfl)
theorem w17 {a0 : Array Value} {Z : State} (hw : ∀ d ∈ tables_1, d.before a0 Z = true) : ((Jvm.Cond.code ({ cls := "java/lang/String", name := "<init>", desc := "([C)V" } : Jvm.MethodName) jdk_42_method_3_code (2 : Nat) (Option.none : Option Jvm.ClassFile.FieldType)) : Jvm.Cond).before a0 Z = true := hw _ (List.mem_of_getElem? (i := 17) rfl)
theorem w18 {a0 : Array Value} {Z : State} (hw : ∀ d ∈ tables_1, d.before a0 Z = true) : ((Jvm.Cond.methodLink "java/lang/String" (27 : Nat) ({ cls := "java/lang/String", name := "<init>", desc := "([CIILjava/lang/Void;)V" } : Jvm.MethodName)) : Jvm.Cond).before a0 Z = true := hw _ (List.mem_of_getElem? (i := 18) rfl)
theorem w19 {a0 : Array Value} {Z : State} (hw : ∀ d ∈ tables_1, d.before a0 Z = true) : ((Jvm.Cond.instanceMethod ({ cls := "java/lang/String", name := "<init>", desc := "([CIILjava/lang/Void;)V" } : Jvm.MethodName)) : Jvm.Cond).before a0 Z = true := hw _ (List.mem_of_getElem? (i := 19) rfl)
theorem w21 {a0 : Array Value} {Z : State} (hw : ∀ d ∈ tables_1, d.before a0 Z = true) : ((Jvm.Cond.code ({ cls := "java/lang/String", name := "<init>", desc := "([CIILjava/lang/Void;)V" } : Jvm.MethodName) jdk_42_method_149_code (6 : Nat) (Option.none : Option Jvm.ClassFile.FieldType)) : Jvm.Cond).before a0 Z = true := hw _ (List.mem_of_getElem? (i := 21) rfl)
theorem w22 {a0 : Array Value} {Z : State} (hw : ∀ d ∈ tables_1, d.before a0 Z = true) : ((Jvm.Cond.methodLink "java/lang/String" (1 : Nat) ({ cls := "java/lang/Object", name := "<init>", desc := "()V" } : Jvm.MethodName)) : Jvm.Cond).before a0 Z = true := hw _ (List.mem_of_getElem? (i := 22) rfl)
theorem w23 {a0 : Array Value} {Z : State} (hw : ∀ d ∈ tables_1, d.before a0 Z = true) : ((Jvm.Cond.instanceMethod ({ cls := "java/lang/Object", name := "<init>", desc := "()V" } : Jvm.MethodName)) : Jvm.Cond).before a0 Z = true := hw _ (List.mem_of_getElem? (i := 23) rfl)
theorem w24 {a0 : Array Value} {Z : State} (hw : ∀ d ∈ tables_1, d.before a0 Z = true) : ((Jvm.Cond.code ({ cls := "java/lang/Object", name := "<init>", desc := "()V" } : Jvm.MethodName) object_method_1_code (1 : Nat) (Option.none : Option Jvm.ClassFile.FieldType)) : Jvm.Cond).before a0 Z = true := hw _ (List.mem_of_getElem? (i := 24) rfl)
theorem w25 {a0 : Array Value} {Z : State} (hw : ∀ d ∈ tables_1, d.before a0 Z = true) : ((Jvm.Cond.fieldLink "java/lang/String" (38 : Nat) "java/lang/String" "COMPACT_STRINGS" "Z") : Jvm.Cond).before a0 Z = true := hw _ (List.mem_of_getElem? (i := 25) rfl)
theorem w26 {a0 : Array Value} {Z : State} (hw : ∀ d ∈ tables_1, d.before a0 Z = true) : ((Jvm.Cond.methodLink "java/lang/String" (177 : Nat) ({ cls := "java/lang/StringUTF16", name := "compress", desc := "([CII)[B" } : Jvm.MethodName)) : Jvm.Cond).before a0 Z = true := hw _ (List.mem_of_getElem? (i := 26) rfl)
theorem w27 {a0 : Array Value} {Z : State} (hw : ∀ d ∈ tables_1, d.before a0 Z = true) : ((Jvm.Cond.static ({ cls := "java/lang/StringUTF16", name := "compress", desc := "([CII)[B" } : Jvm.MethodName)) : Jvm.Cond).before a0 Z = true := hw _ (List.mem_of_getElem? (i := 27) rfl)
theorem w28 {a0 : Array Value} {Z : State} (hw : ∀ d ∈ tables_1, d.before a0 Z = true) : ((Jvm.Cond.initialized "java/lang/StringUTF16") : Jvm.Cond).before a0 Z = true := hw _ (List.mem_of_getElem? (i := 28) rfl)
theorem w29 {a0 : Array Value} {Z : State} (hw : ∀ d ∈ tables_1, d.before a0 Z = true) : ((Jvm.Cond.code ({ cls := "java/lang/StringUTF16", name := "compress", desc := "([CII)[B" } : Jvm.MethodName) jdk_52_method_16_code (6 : Nat) (Option.some (Jvm.ClassFile.FieldType.array Jvm.ClassFile.FieldType.byte))) : Jvm.Cond).before a0 Z = true := hw _ (List.mem_of_getElem? (i := 29) rfl)
theorem w30 {a0 : Array Value} {Z : State} (hw : ∀ d ∈ tables_1, d.before a0 Z = true) : ((Jvm.Cond.arrayClass Jvm.ClassFile.FieldType.byte) : Jvm.Cond).before a0 Z = true := hw _ (List.mem_of_getElem? (i := 30) rfl)
theorem w31 {a0 : Array Value} {Z : State} (hw : ∀ d ∈ tables_1, d.before a0 Z = true) : ((Jvm.Cond.methodLink "java/lang/StringUTF16" (115 : Nat) ({ cls := "java/lang/StringUTF16", name := "compress", desc := "([CI[BII)I" } : Jvm.MethodName)) : Jvm.Cond).before a0 Z = true := hw _ (List.mem_of_getElem? (i := 31) rfl)
theorem w32 {a0 : Array Value} {Z : State} (hw : ∀ d ∈ tables_1, d.before a0 Z = true) : ((Jvm.Cond.static ({ cls := "java/lang/StringUTF16", name := "compress", desc := "([CI[BII)I" } : Jvm.MethodName)) : Jvm.Cond).before a0 Z = true := hw _ (List.mem_of_getElem? (i := 32) rfl)
theorem w33 {a0 : Array Value} {Z : State} (hw : ∀ d ∈ tables_1, d.before a0 Z = true) : ((Jvm.Cond.code ({ cls := "java/lang/StringUTF16", name := "compress", desc := "([CI[BII)I" } : Jvm.MethodName) jdk_52_method_21_code (7 : Nat) (Option.some Jvm.ClassFile.FieldType.int)) : Jvm.Cond).before a0 Z = true := hw _ (List.mem_of_getElem? (i := 33) rfl)
theorem w34 {a0 : Array Value} {Z : State} (hw : ∀ d ∈ tables_1, d.before a0 Z = true) : ((Jvm.Cond.methodLink "java/lang/String" (47 : Nat) ({ cls := "java/lang/StringUTF16", name := "coderFromArrayLen", desc := "([BI)B" } : Jvm.MethodName)) : Jvm.Cond).before a0 Z = true := hw _ (List.mem_of_getElem? (i := 34) rfl)
theorem w35 {a0 : Array Value} {Z : State} (hw : ∀ d ∈ tables_1, d.before a0 Z = true) : ((Jvm.Cond.static ({ cls := "java/lang/StringUTF16", name := "coderFromArrayLen", desc := "([BI)B" } : Jvm.MethodName)) : Jvm.Cond).before a0 Z = true := hw _ (List.mem_of_getElem? (i := 35) rfl)
theorem w36 {a0 : Array Value} {Z : State} (hw : ∀ d ∈ tables_1, d.before a0 Z = true) : ((Jvm.Cond.code ({ cls := "java/lang/StringUTF16", name := "coderFromArrayLen", desc := "([BI)B" } : Jvm.MethodName) jdk_52_method_15_code (2 : Nat) (Option.some Jvm.ClassFile.FieldType.byte)) : Jvm.Cond).before a0 Z = true := hw _ (List.mem_of_getElem? (i := 36) rfl)
theorem w37 {a0 : Array Value} {Z : State} (hw : ∀ d ∈ tables_1, d.before a0 Z = true) : ((Jvm.Cond.fieldLink "java/lang/String" (15 : Nat) "java/lang/String" "coder" "B") : Jvm.Cond).before a0 Z = true := hw _ (List.mem_of_getElem? (i := 37) rfl)
theorem w38 {a0 : Array Value} {Z : State} (hw : ∀ d ∈ tables_1, d.before a0 Z = true) : ((Jvm.Cond.laysFinal "java/lang/String" "java/lang/String" "coder" "B") : Jvm.Cond).before a0 Z = true := hw _ (List.mem_of_getElem? (i := 38) rfl)
theorem w39 {a0 : Array Value} {Z : State} (hw : ∀ d ∈ tables_1, d.before a0 Z = true) : ((Jvm.Cond.fieldLink "java/lang/String" (9 : Nat) "java/lang/String" "value" "[B") : Jvm.Cond).before a0 Z = true := hw _ (List.mem_of_getElem? (i := 39) rfl)
theorem w40 {a0 : Array Value} {Z : State} (hw : ∀ d ∈ tables_1, d.before a0 Z = true) : ((Jvm.Cond.laysFinal "java/lang/String" "java/lang/String" "value" "[B") : Jvm.Cond).before a0 Z = true := hw _ (List.mem_of_getElem? (i := 40) rfl)
theorem w41 {a0 : Array Value} {Z : State} (hw : ∀ d ∈ tables_1, d.before a0 Z = true) : ((Jvm.Cond.stringLink "java/lang/String" (7 : Nat) "") : Jvm.Cond).before a0 Z = true := hw _ (List.mem_of_getElem? (i := 41) rfl)
theorem w42 {a0 : Array Value} {Z : State} (hw : ∀ d ∈ tables_1, d.before a0 Z = true) : ((Jvm.Cond.soleField "java/lang/String" "value") : Jvm.Cond).before a0 Z = true := hw _ (List.mem_of_getElem? (i := 42) rfl)
theorem w43 {a0 : Array Value} {Z : State} (hw : ∀ d ∈ tables_1, d.before a0 Z = true) : ((Jvm.Cond.soleField "java/lang/String" "coder") : Jvm.Cond).before a0 Z = true := hw _ (List.mem_of_getElem? (i := 43) rfl)
theorem w44 {a0 : Array Value} {Z : State} (hw : ∀ d ∈ tables_1, d.before a0 Z = true) : ((Jvm.Cond.classLink "com/example/strict_mapper/strictmapper/query/TokenIsSymbolPinLaw" (47 : Nat) "com/example/strict_mapper/strictmapper/query/JpqlLexer$Token") : Jvm.Cond).before a0 Z = true := hw _ (List.mem_of_getElem? (i := 44) rfl)
theorem w45 {a0 : Array Value} {Z : State} (hw : ∀ d ∈ tables_1, d.before a0 Z = true) : ((Jvm.Cond.instantiable "com/example/strict_mapper/strictmapper/query/JpqlLexer$Token" (3 : Nat)) : Jvm.Cond).before a0 Z = true := hw _ (List.mem_of_getElem? (i := 45) rfl)
theorem w46 {a0 : Array Value} {Z : State} (hw : ∀ d ∈ tables_1, d.before a0 Z = true) : ((Jvm.Cond.initialized "com/example/strict_mapper/strictmapper/query/JpqlLexer$Token") : Jvm.Cond).before a0 Z = true := hw _ (List.mem_of_getElem? (i := 46) rfl)
theorem w47 {a0 : Array Value} {Z : State} (hw : ∀ d ∈ tables_1, d.before a0 Z = true) : ((Jvm.Cond.methodLink "com/example/strict_mapper/strictmapper/query/TokenIsSymbolPinLaw" (49 : Nat) ({ cls := "com/example/strict_mapper/strictmapper/query/JpqlLexer$Token", name := "<init>", desc := "(Lcom/example/strict_mapper/strictmapper/query/JpqlLexer$Kind;Ljava/lang/String;I)V" } : Jvm.MethodName)) : Jvm.Cond).before a0 Z = true := hw _ (List.mem_of_getElem? (i := 47) rfl)
theorem w48 {a0 : Array Value} {Z : State} (hw : ∀ d ∈ tables_1, d.before a0 Z = true) : ((Jvm.Cond.instanceMethod ({ cls := "com/example/strict_mapper/strictmapper/query/JpqlLexer$Token", name := "<init>", desc := "(Lcom/example/strict_mapper/strictmapper/query/JpqlLexer$Kind;Ljava/lang/String;I)V" } : Jvm.MethodName)) : Jvm.Cond).before a0 Z = true := hw _ (List.mem_of_getElem? (i := 48) rfl)
theorem w49 {a0 : Array Value} {Z : State} (hw : ∀ d ∈ tables_1, d.before a0 Z = true) : ((Jvm.Cond.code ({ cls := "com/example/strict_mapper/strictmapper/query/JpqlLexer$Token", name := "<init>", desc := "(Lcom/example/strict_mapper/strictmapper/query/JpqlLexer$Kind;Ljava/lang/String;I)V" } : Jvm.MethodName) prog_21_method_1_code (4 : Nat) (Option.none : Option Jvm.ClassFile.FieldType)) : Jvm.Cond).before a0 Z = true := hw _ (List.mem_of_getElem? (i := 49) rfl)
theorem w50 {a0 : Array Value} {Z : State} (hw : ∀ d ∈ tables_1, d.before a0 Z = true) : ((Jvm.Cond.methodLink "com/example/strict_mapper/strictmapper/query/JpqlLexer$Token" (1 : Nat) ({ cls := "java/lang/Record", name := "<init>", desc := "()V" } : Jvm.MethodName)) : Jvm.Cond).before a0 Z = true := hw _ (List.mem_of_getElem? (i := 50) rfl)
theorem w51 {a0 : Array Value} {Z : State} (hw : ∀ d ∈ tables_1, d.before a0 Z = true) : ((Jvm.Cond.instanceMethod ({ cls := "java/lang/Record", name := "<init>", desc := "()V" } : Jvm.MethodName)) : Jvm.Cond).before a0 Z = true := hw _ (List.mem_of_getElem? (i := 51) rfl)
theorem w53 {a0 : Array Value} {Z : State} (hw : ∀ d ∈ tables_1, d.before a0 Z = true) : ((Jvm.Cond.initialized "java/lang/Record") : Jvm.Cond).before a0 Z = true := hw _ (List.mem_of_getElem? (i := 53) rfl)
theorem w54 {a0 : Array Value} {Z : State} (hw : ∀ d ∈ tables_1, d.before a0 Z = true) : ((Jvm.Cond.code ({ cls := "java/lang/Record", name := "<init>", desc := "()V" } : Jvm.MethodName) jdk_30_method_1_code (1 : Nat) (Option.none : Option Jvm.ClassFile.FieldType)) : Jvm.Cond).before a0 Z = true := hw _ (List.mem_of_getElem? (i := 54) rfl)
theorem w55 {a0 : Array Value} {Z : State} (hw : ∀ d ∈ tables_1, d.before a0 Z = true) : ((Jvm.Cond.methodLink "java/lang/Record" (1 : Nat) ({ cls := "java/lang/Object", name := "<init>", desc := "()V" } : Jvm.MethodName)) : Jvm.Cond).before a0 Z = true := hw _ (List.mem_of_getElem? (i := 55) rfl)
theorem w56 {a0 : Array Value} {Z : State} (hw : ∀ d ∈ tables_1, d.before a0 Z = true) : ((Jvm.Cond.fieldLink "com/example/strict_mapper/strictmapper/query/JpqlLexer$Token" (7 : Nat) "com/example/strict_mapper/strictmapper/query/JpqlLexer$Token" "kind" "Lcom/example/strict_mapper/strictmapper/query/JpqlLexer$Kind;") : Jvm.Cond).before a0 Z = true := hw _ (List.mem_of_getElem? (i := 56) rfl)
theorem w57 {a0 : Array Value} {Z : State} (hw : ∀ d ∈ tables_1, d.before a0 Z = true) : ((Jvm.Cond.laysFinal "com/example/strict_mapper/strictmapper/query/JpqlLexer$Token" "com/example/strict_mapper/strictmapper/query/JpqlLexer$Token" "kind" "Lcom/example/strict_mapper/strictmapper/query/JpqlLexer$Kind;") : Jvm.Cond).before a0 Z = true := hw _ (List.mem_of_getElem? (i := 57) rfl)
theorem w58 {a0 : Array Value} {Z : State} (hw : ∀ d ∈ tables_1, d.before a0 Z = true) : ((Jvm.Cond.fieldLink "com/example/strict_mapper/strictmapper/query/JpqlLexer$Token" (13 : Nat) "com/example/strict_mapper/strictmapper/query/JpqlLexer$Token" "text" "Ljava/lang/String;") : Jvm.Cond).before a0 Z = true := hw _ (List.mem_of_getElem? (i := 58) rfl)
theorem w59 {a0 : Array Value} {Z : State} (hw : ∀ d ∈ tables_1, d.before a0 Z = true) : ((Jvm.Cond.laysFinal "com/example/strict_mapper/strictmapper/query/JpqlLexer$Token" "com/example/strict_mapper/strictmapper/query/JpqlLexer$Token" "text" "Ljava/lang/String;") : Jvm.Cond).before a0 Z = true := hw _ (List.mem_of_getElem? (i := 59) rfl)
theorem w60 {a0 : Array Value} {Z : State} (hw : ∀ d ∈ tables_1, d.before a0 Z = true) : ((Jvm.Cond.fieldLink "com/example/strict_mapper/strictmapper/query/JpqlLexer$Token" (17 : Nat) "com/example/strict_mapper/strictmapper/query/JpqlLexer$Token" "index" "I") : Jvm.Cond).before a0 Z = true := hw _ (List.mem_of_getElem? (i := 60) rfl)
theorem w61 {a0 : Array Value} {Z : State} (hw : ∀ d ∈ tables_1, d.before a0 Z = true) : ((Jvm.Cond.laysFinal "com/example/strict_mapper/strictmapper/query/JpqlLexer$Token" "com/example/strict_mapper/strictmapper/query/JpqlLexer$Token" "index" "I") : Jvm.Cond).before a0 Z = true := hw _ (List.mem_of_getElem? (i := 61) rfl)
theorem w62 {a0 : Array Value} {Z : State} (hw : ∀ d ∈ tables_1, d.before a0 Z = true) : ((Jvm.Cond.methodLink "com/example/strict_mapper/strictmapper/query/TokenIsSymbolPinLaw" (52 : Nat) ({ cls := "com/example/strict_mapper/strictmapper/query/JpqlLexer$Token", name := "isSymbol", desc := "(Ljava/lang/String;)Z" } : Jvm.MethodName)) : Jvm.Cond).before a0 Z = true := hw _ (List.mem_of_getElem? (i := 62) rfl)
theorem w63 {a0 : Array Value} {Z : State} (hw : ∀ d ∈ tables_1, d.before a0 Z = true) : ((Jvm.Cond.declares ({ cls := "com/example/strict_mapper/strictmapper/query/JpqlLexer$Token", name := "isSymbol", desc := "(Ljava/lang/String;)Z" } : Jvm.MethodName)) : Jvm.Cond).before a0 Z = true := hw _ (List.mem_of_getElem? (i := 63) rfl)
theorem w64 {a0 : Array Value} {Z : State} (hw : ∀ d ∈ tables_1, d.before a0 Z = true) : ((Jvm.Cond.instanceMethod ({ cls := "com/example/strict_mapper/strictmapper/query/JpqlLexer$Token", name := "isSymbol", desc := "(Ljava/lang/String;)Z" } : Jvm.MethodName)) : Jvm.Cond).before a0 Z = true := hw _ (List.mem_of_getElem? (i := 64) rfl)
theorem w65 {a0 : Array Value} {Z : State} (hw : ∀ d ∈ tables_1, d.before a0 Z = true) : ((Jvm.Cond.selects "com/example/strict_mapper/strictmapper/query/JpqlLexer$Token" ({ cls := "com/example/strict_mapper/strictmapper/query/JpqlLexer$Token", name := "isSymbol", desc := "(Ljava/lang/String;)Z" } : Jvm.MethodName) ({ cls := "com/example/strict_mapper/strictmapper/query/JpqlLexer$Token", name := "isSymbol", desc := "(Ljava/lang/String;)Z" } : Jvm.MethodName)) : Jvm.Cond).before a0 Z = true := hw _ (List.mem_of_getElem? (i := 65) rfl)
theorem w66 {a0 : Array Value} {Z : State} (hw : ∀ d ∈ tables_1, d.before a0 Z = true) : ((Jvm.Cond.code ({ cls := "com/example/strict_mapper/strictmapper/query/JpqlLexer$Token", name := "isSymbol", desc := "(Ljava/lang/String;)Z" } : Jvm.MethodName) prog_21_method_3_code (2 : Nat) (Option.some Jvm.ClassFile.FieldType.boolean)) : Jvm.Cond).before a0 Z = true := hw _ (List.mem_of_getElem? (i := 66) rfl)
theorem w67 {a0 : Array Value} {Z : State} (hw : ∀ d ∈ tables_1, d.before a0 Z = true) : ((Jvm.Cond.fieldLink "com/example/strict_mapper/strictmapper/query/JpqlLexer$Token" (32 : Nat) "com/example/strict_mapper/strictmapper/query/JpqlLexer$Kind" "SYMBOL" "Lcom/example/strict_mapper/strictmapper/query/JpqlLexer$Kind;") : Jvm.Cond).before a0 Z = true := hw _ (List.mem_of_getElem? (i := 67) rfl)
theorem w68 {a0 : Array Value} {Z : State} (hw : ∀ d ∈ tables_1, d.before a0 Z = true) : ((Jvm.Cond.laysStatic "com/example/strict_mapper/strictmapper/query/JpqlLexer$Kind" "SYMBOL" "Lcom/example/strict_mapper/strictmapper/query/JpqlLexer$Kind;") : Jvm.Cond).before a0 Z = true := hw _ (List.mem_of_getElem? (i := 68) rfl)
theorem w69 {a0 : Array Value} {Z : State} (hw : ∀ d ∈ tables_1, d.before a0 Z = true) : ((Jvm.Cond.fieldLink "com/example/strict_mapper/strictmapper/query/TokenIsSymbolPinLaw" (19 : Nat) "com/example/strict_mapper/strictmapper/query/JpqlLexer$Kind" "NAMED_PARAMETER" "Lcom/example/strict_mapper/strictmapper/query/JpqlLexer$Kind;") : Jvm.Cond).before a0 Z = true := hw _ (List.mem_of_getElem? (i := 69) rfl)
theorem w70 {a0 : Array Value} {Z : State} (hw : ∀ d ∈ tables_1, d.before a0 Z = true) : ((Jvm.Cond.laysStatic "com/example/strict_mapper/strictmapper/query/JpqlLexer$Kind" "NAMED_PARAMETER" "Lcom/example/strict_mapper/strictmapper/query/JpqlLexer$Kind;") : Jvm.Cond).before a0 Z = true := hw _ (List.mem_of_getElem? (i := 70) rfl)
theorem w71 {a0 : Array Value} {Z : State} (hw : ∀ d ∈ tables_1, d.before a0 Z = true) : ((Jvm.Cond.fieldLink "com/example/strict_mapper/strictmapper/query/TokenIsSymbolPinLaw" (25 : Nat) "com/example/strict_mapper/strictmapper/query/JpqlLexer$Kind" "SYMBOL" "Lcom/example/strict_mapper/strictmapper/query/JpqlLexer$Kind;") : Jvm.Cond).before a0 Z = true := hw _ (List.mem_of_getElem? (i := 71) rfl)
theorem w72 {a0 : Array Value} {Z : State} (hw : ∀ d ∈ tables_1, d.before a0 Z = true) : ((Jvm.Cond.methodLink "com/example/strict_mapper/strictmapper/query/JpqlLexer$Token" (35 : Nat) ({ cls := "java/lang/String", name := "equals", desc := "(Ljava/lang/Object;)Z" } : Jvm.MethodName)) : Jvm.Cond).before a0 Z = true := hw _ (List.mem_of_getElem? (i := 72) rfl)
theorem w73 {a0 : Array Value} {Z : State} (hw : ∀ d ∈ tables_1, d.before a0 Z = true) : ((Jvm.Cond.declares ({ cls := "java/lang/String", name := "equals", desc := "(Ljava/lang/Object;)Z" } : Jvm.MethodName)) : Jvm.Cond).before a0 Z = true := hw _ (List.mem_of_getElem? (i := 73) rfl)
theorem w74 {a0 : Array Value} {Z : State} (hw : ∀ d ∈ tables_1, d.before a0 Z = true) : ((Jvm.Cond.instanceMethod ({ cls := "java/lang/String", name := "equals", desc := "(Ljava/lang/Object;)Z" } : Jvm.MethodName)) : Jvm.Cond).before a0 Z = true := hw _ (List.mem_of_getElem? (i := 74) rfl)
theorem w75 {a0 : Array Value} {Z : State} (hw : ∀ d ∈ tables_1, d.before a0 Z = true) : ((Jvm.Cond.selects "java/lang/String" ({ cls := "java/lang/String", name := "equals", desc := "(Ljava/lang/Object;)Z" } : Jvm.MethodName) ({ cls := "java/lang/String", name := "equals", desc := "(Ljava/lang/Object;)Z" } : Jvm.MethodName)) : Jvm.Cond).before a0 Z = true := hw _ (List.mem_of_getElem? (i := 75) rfl)
theorem w76 {a0 : Array Value} {Z : State} (hw : ∀ d ∈ tables_1, d.before a0 Z = true) : ((Jvm.Cond.code ({ cls := "java/lang/String", name := "equals", desc := "(Ljava/lang/Object;)Z" } : Jvm.MethodName) jdk_42_method_66_code (3 : Nat) (Option.some Jvm.ClassFile.FieldType.boolean)) : Jvm.Cond).before a0 Z = true := hw _ (List.mem_of_getElem? (i := 76) rfl)
theorem w77 {a0 : Array Value} {Z : State} (hw : ∀ d ∈ tables_1, d.before a0 Z = true) : ((Jvm.Cond.classLink "java/lang/String" (10 : Nat) "java/lang/String") : Jvm.Cond).before a0 Z = true := hw _ (List.mem_of_getElem? (i := 77) rfl)
theorem w78 {a0 : Array Value} {Z : State} (hw : ∀ d ∈ tables_1, d.before a0 Z = true) : ((Jvm.Cond.methodLink "java/lang/String" (541 : Nat) ({ cls := "java/lang/StringLatin1", name := "equals", desc := "([B[B)Z" } : Jvm.MethodName)) : Jvm.Cond).before a0 Z = true := hw _ (List.mem_of_getElem? (i := 78) rfl)
theorem w79 {a0 : Array Value} {Z : State} (hw : ∀ d ∈ tables_1, d.before a0 Z = true) : ((Jvm.Cond.static ({ cls := "java/lang/StringLatin1", name := "equals", desc := "([B[B)Z" } : Jvm.MethodName)) : Jvm.Cond).before a0 Z = true := hw _ (List.mem_of_getElem? (i := 79) rfl)
theorem w80 {a0 : Array Value} {Z : State} (hw : ∀ d ∈ tables_1, d.before a0 Z = true) : ((Jvm.Cond.initialized "java/lang/StringLatin1") : Jvm.Cond).before a0 Z = true := hw _ (List.mem_of_getElem? (i := 80) rfl)
theorem w81 {a0 : Array Value} {Z : State} (hw : ∀ d ∈ tables_1, d.before a0 Z = true) : ((Jvm.Cond.code ({ cls := "java/lang/StringLatin1", name := "equals", desc := "([B[B)Z" } : Jvm.MethodName) jdk_43_method_13_code (3 : Nat) (Option.some Jvm.ClassFile.FieldType.boolean)) : Jvm.Cond).before a0 Z = true := hw _ (List.mem_of_getElem? (i := 81) rfl)
theorem w82 {a0 : Array Value} {Z : State} (hw : ∀ d ∈ tables_1, d.before a0 Z = true) : ((Jvm.Cond.fieldLink "com/example/strict_mapper/strictmapper/query/TokenIsSymbolPinLaw" (13 : Nat) "com/example/strict_mapper/strictmapper/query/JpqlLexer$Kind" "STRING" "Lcom/example/strict_mapper/strictmapper/query/JpqlLexer$Kind;") : Jvm.Cond).before a0 Z = true := hw _ (List.mem_of_getElem? (i := 82) rfl)
theorem w83 {a0 : Array Value} {Z : State} (hw : ∀ d ∈ tables_1, d.before a0 Z = true) : ((Jvm.Cond.laysStatic "com/example/strict_mapper/strictmapper/query/JpqlLexer$Kind" "STRING" "Lcom/example/strict_mapper/strictmapper/query/JpqlLexer$Kind;") : Jvm.Cond).before a0 Z = true := hw _ (List.mem_of_getElem? (i := 83) rfl)
theorem w84 {a0 : Array Value} {Z : State} (hw : ∀ d ∈ tables_1, d.before a0 Z = true) : ((Jvm.Cond.fieldLink "com/example/strict_mapper/strictmapper/query/TokenIsSymbolPinLaw" (28 : Nat) "com/example/strict_mapper/strictmapper/query/JpqlLexer$Kind" "END" "Lcom/example/strict_mapper/strictmapper/query/JpqlLexer$Kind;") : Jvm.Cond).before a0 Z = true := hw _ (List.mem_of_getElem? (i := 84) rfl)
theorem w85 {a0 : Array Value} {Z : State} (hw : ∀ d ∈ tables_1, d.before a0 Z = true) : ((Jvm.Cond.laysStatic "com/example/strict_mapper/strictmapper/query/JpqlLexer$Kind" "END" "Lcom/example/strict_mapper/strictmapper/query/JpqlLexer$Kind;") : Jvm.Cond).before a0 Z = true := hw _ (List.mem_of_getElem? (i := 85) rfl)
theorem w86 {a0 : Array Value} {Z : State} (hw : ∀ d ∈ tables_1, d.before a0 Z = true) : ((Jvm.Cond.fieldLink "com/example/strict_mapper/strictmapper/query/TokenIsSymbolPinLaw" (16 : Nat) "com/example/strict_mapper/strictmapper/query/JpqlLexer$Kind" "NUMBER" "Lcom/example/strict_mapper/strictmapper/query/JpqlLexer$Kind;") : Jvm.Cond).before a0 Z = true := hw _ (List.mem_of_getElem? (i := 86) rfl)
theorem w87 {a0 : Array Value} {Z : State} (hw : ∀ d ∈ tables_1, d.before a0 Z = true) : ((Jvm.Cond.laysStatic "com/example/strict_mapper/strictmapper/query/JpqlLexer$Kind" "NUMBER" "Lcom/example/strict_mapper/strictmapper/query/JpqlLexer$Kind;") : Jvm.Cond).before a0 Z = true := hw _ (List.mem_of_getElem? (i := 87) rfl)
theorem w88 {a0 : Array Value} {Z : State} (hw : ∀ d ∈ tables_1, d.before a0 Z = true) : ((Jvm.Cond.fieldLink "com/example/strict_mapper/strictmapper/query/TokenIsSymbolPinLaw" (22 : Nat) "com/example/strict_mapper/strictmapper/query/JpqlLexer$Kind" "NUMBERED_PARAMETER" "Lcom/example/strict_mapper/strictmapper/query/JpqlLexer$Kind;") : Jvm.Cond).before a0 Z = true := hw _ (List.mem_of_getElem? (i := 88) rfl)
theorem w89 {a0 : Array Value} {Z : State} (hw : ∀ d ∈ tables_1, d.before a0 Z = true) : ((Jvm.Cond.laysStatic "com/example/strict_mapper/strictmapper/query/JpqlLexer$Kind" "NUMBERED_PARAMETER" "Lcom/example/strict_mapper/strictmapper/query/JpqlLexer$Kind;") : Jvm.Cond).before a0 Z = true := hw _ (List.mem_of_getElem? (i := 89) rfl)
theorem wStr {a0 : Array Value} {Z : State} (hw : ∀ d ∈ tables_1, d.before a0 Z = true) : ∀ d ∈ Bundle.stringAtoms, d.before a0 Z = true := fun d hd => by
  simp only [Bundle.stringAtoms, List.mem_cons, List.not_mem_nil, or_false] at hd
  rcases hd with rfl | rfl | rfl | rfl | rfl | rfl | rfl
  · exact (w13 hw)
  · exact (w12 hw)
  · exact (w30 hw)
  · exact (w40 hw)
  · exact (w38 hw)
  · exact (w42 hw)
  · exact (w43 hw)
abbrev EL1 : List (String × Nat) := consts_1
theorem ew {a0 : Array Value} {Z : State} (hw : ∀ d ∈ tables_1, d.before a0 Z = true) : EW Z a0 EL1 := EW.cons (w41 hw) (by decide) (EW.nil)
theorem d_rini_0 : decode jdk_30_method_1_code 0 = .ok (.aload_n 0, 1) := by decide +kernel
theorem d_rini_1 : decode jdk_30_method_1_code 1 = .ok (.invokespecial 1, 3) := by decide +kernel
theorem d_rini_4 : decode jdk_30_method_1_code 4 = .ok (.return_, 1) := by decide +kernel
theorem d_sini4_0 : decode jdk_42_method_149_code 0 = .ok (.aload_n 0, 1) := by decide +kernel
theorem d_sini4_1 : decode jdk_42_method_149_code 1 = .ok (.invokespecial 1, 3) := by decide +kernel
theorem d_sini4_4 : decode jdk_42_method_149_code 4 = .ok (.iload_n 3, 1) := by decide +kernel
theorem d_sini4_5 : decode jdk_42_method_149_code 5 = .ok (.ifCond .ne 22, 3) := by decide +kernel
theorem d_sini4_8 : decode jdk_42_method_149_code 8 = .ok (.aload_n 0, 1) := by decide +kernel
theorem d_sini4_9 : decode jdk_42_method_149_code 9 = .ok (.ldc 7, 2) := by decide +kernel
theorem d_sini4_11 : decode jdk_42_method_149_code 11 = .ok (.getfield 9, 3) := by decide +kernel
theorem d_sini4_14 : decode jdk_42_method_149_code 14 = .ok (.putfield 9, 3) := by decide +kernel
theorem d_sini4_17 : decode jdk_42_method_149_code 17 = .ok (.aload_n 0, 1) := by decide +kernel
theorem d_sini4_18 : decode jdk_42_method_149_code 18 = .ok (.ldc 7, 2) := by decide +kernel
theorem d_sini4_20 : decode jdk_42_method_149_code 20 = .ok (.getfield 15, 3) := by decide +kernel
theorem d_sini4_23 : decode jdk_42_method_149_code 23 = .ok (.putfield 15, 3) := by decide +kernel
theorem d_sini4_26 : decode jdk_42_method_149_code 26 = .ok (.return_, 1) := by decide +kernel
theorem d_sini4_27 : decode jdk_42_method_149_code 27 = .ok (.getstatic 38, 3) := by decide +kernel
theorem d_sini4_30 : decode jdk_42_method_149_code 30 = .ok (.ifCond .eq 28, 3) := by decide +kernel
theorem d_sini4_33 : decode jdk_42_method_149_code 33 = .ok (.aload_n 1, 1) := by decide +kernel
theorem d_sini4_34 : decode jdk_42_method_149_code 34 = .ok (.iload_n 2, 1) := by decide +kernel
theorem d_sini4_35 : decode jdk_42_method_149_code 35 = .ok (.iload_n 3, 1) := by decide +kernel
theorem d_sini4_36 : decode jdk_42_method_149_code 36 = .ok (.invokestatic 177, 3) := by decide +kernel
theorem d_sini4_39 : decode jdk_42_method_149_code 39 = .ok (.astore 5, 2) := by decide +kernel
theorem d_sini4_41 : decode jdk_42_method_149_code 41 = .ok (.aload_n 0, 1) := by decide +kernel
theorem d_sini4_42 : decode jdk_42_method_149_code 42 = .ok (.aload 5, 2) := by decide +kernel
theorem d_sini4_44 : decode jdk_42_method_149_code 44 = .ok (.iload_n 3, 1) := by decide +kernel
theorem d_sini4_45 : decode jdk_42_method_149_code 45 = .ok (.invokestatic 47, 3) := by decide +kernel
theorem d_sini4_48 : decode jdk_42_method_149_code 48 = .ok (.putfield 15, 3) := by decide +kernel
theorem d_sini4_51 : decode jdk_42_method_149_code 51 = .ok (.aload_n 0, 1) := by decide +kernel
theorem d_sini4_52 : decode jdk_42_method_149_code 52 = .ok (.aload 5, 2) := by decide +kernel
theorem d_sini4_54 : decode jdk_42_method_149_code 54 = .ok (.putfield 9, 3) := by decide +kernel
theorem d_sini4_57 : decode jdk_42_method_149_code 57 = .ok (.return_, 1) := by decide +kernel
theorem d_sini1_0 : decode jdk_42_method_3_code 0 = .ok (.aload_n 0, 1) := by decide +kernel
theorem d_sini1_1 : decode jdk_42_method_3_code 1 = .ok (.aload_n 1, 1) := by decide +kernel
theorem d_sini1_2 : decode jdk_42_method_3_code 2 = .ok (.iconst 0, 1) := by decide +kernel
theorem d_sini1_3 : decode jdk_42_method_3_code 3 = .ok (.aload_n 1, 1) := by decide +kernel
theorem d_sini1_4 : decode jdk_42_method_3_code 4 = .ok (.arraylength, 1) := by decide +kernel
theorem d_sini1_5 : decode jdk_42_method_3_code 5 = .ok (.aconst_null, 1) := by decide +kernel
theorem d_sini1_6 : decode jdk_42_method_3_code 6 = .ok (.invokespecial 27, 3) := by decide +kernel
theorem d_sini1_9 : decode jdk_42_method_3_code 9 = .ok (.return_, 1) := by decide +kernel
theorem d_seq_0 : decode jdk_42_method_66_code 0 = .ok (.aload_n 0, 1) := by decide +kernel
theorem d_seq_1 : decode jdk_42_method_66_code 1 = .ok (.aload_n 1, 1) := by decide +kernel
theorem d_seq_2 : decode jdk_42_method_66_code 2 = .ok (.if_acmp .ne 5, 3) := by decide +kernel
theorem d_seq_5 : decode jdk_42_method_66_code 5 = .ok (.iconst 1, 1) := by decide +kernel
theorem d_seq_6 : decode jdk_42_method_66_code 6 = .ok (.ireturn, 1) := by decide +kernel
theorem d_seq_7 : decode jdk_42_method_66_code 7 = .ok (.aload_n 1, 1) := by decide +kernel
theorem d_seq_8 : decode jdk_42_method_66_code 8 = .ok (.instanceof 10, 3) := by decide +kernel
theorem d_seq_11 : decode jdk_42_method_66_code 11 = .ok (.ifCond .eq 43, 3) := by decide +kernel
theorem d_seq_14 : decode jdk_42_method_66_code 14 = .ok (.aload_n 1, 1) := by decide +kernel
theorem d_seq_15 : decode jdk_42_method_66_code 15 = .ok (.checkcast 10, 3) := by decide +kernel
theorem d_seq_18 : decode jdk_42_method_66_code 18 = .ok (.astore_n 2, 1) := by decide +kernel
theorem d_seq_19 : decode jdk_42_method_66_code 19 = .ok (.getstatic 38, 3) := by decide +kernel
theorem d_seq_22 : decode jdk_42_method_66_code 22 = .ok (.ifCond .eq 14, 3) := by decide +kernel
theorem d_seq_25 : decode jdk_42_method_66_code 25 = .ok (.aload_n 0, 1) := by decide +kernel
theorem d_seq_26 : decode jdk_42_method_66_code 26 = .ok (.getfield 15, 3) := by decide +kernel
theorem d_seq_29 : decode jdk_42_method_66_code 29 = .ok (.aload_n 2, 1) := by decide +kernel
theorem d_seq_30 : decode jdk_42_method_66_code 30 = .ok (.getfield 15, 3) := by decide +kernel
theorem d_seq_33 : decode jdk_42_method_66_code 33 = .ok (.if_icmp .ne 21, 3) := by decide +kernel
theorem d_seq_36 : decode jdk_42_method_66_code 36 = .ok (.aload_n 0, 1) := by decide +kernel
theorem d_seq_37 : decode jdk_42_method_66_code 37 = .ok (.getfield 9, 3) := by decide +kernel
theorem d_seq_40 : decode jdk_42_method_66_code 40 = .ok (.aload_n 2, 1) := by decide +kernel
theorem d_seq_41 : decode jdk_42_method_66_code 41 = .ok (.getfield 9, 3) := by decide +kernel
theorem d_seq_44 : decode jdk_42_method_66_code 44 = .ok (.invokestatic 541, 3) := by decide +kernel
theorem d_seq_47 : decode jdk_42_method_66_code 47 = .ok (.ifCond .eq 7, 3) := by decide +kernel
theorem d_seq_50 : decode jdk_42_method_66_code 50 = .ok (.iconst 1, 1) := by decide +kernel
theorem d_seq_51 : decode jdk_42_method_66_code 51 = .ok (.goto 4, 3) := by decide +kernel
theorem d_seq_54 : decode jdk_42_method_66_code 54 = .ok (.iconst 0, 1) := by decide +kernel
theorem d_seq_55 : decode jdk_42_method_66_code 55 = .ok (.ireturn, 1) := by decide +kernel
theorem d_leq_0 : decode jdk_43_method_13_code 0 = .ok (.aload_n 0, 1) := by decide +kernel
theorem d_leq_1 : decode jdk_43_method_13_code 1 = .ok (.arraylength, 1) := by decide +kernel
theorem d_leq_2 : decode jdk_43_method_13_code 2 = .ok (.aload_n 1, 1) := by decide +kernel
theorem d_leq_3 : decode jdk_43_method_13_code 3 = .ok (.arraylength, 1) := by decide +kernel
theorem d_leq_4 : decode jdk_43_method_13_code 4 = .ok (.if_icmp .ne 30, 3) := by decide +kernel
theorem d_leq_7 : decode jdk_43_method_13_code 7 = .ok (.iconst 0, 1) := by decide +kernel
theorem d_leq_8 : decode jdk_43_method_13_code 8 = .ok (.istore_n 2, 1) := by decide +kernel
theorem d_leq_9 : decode jdk_43_method_13_code 9 = .ok (.iload_n 2, 1) := by decide +kernel
theorem d_leq_10 : decode jdk_43_method_13_code 10 = .ok (.aload_n 0, 1) := by decide +kernel
theorem d_leq_11 : decode jdk_43_method_13_code 11 = .ok (.arraylength, 1) := by decide +kernel
theorem d_leq_12 : decode jdk_43_method_13_code 12 = .ok (.if_icmp .ge 20, 3) := by decide +kernel
theorem d_leq_15 : decode jdk_43_method_13_code 15 = .ok (.aload_n 0, 1) := by decide +kernel
theorem d_leq_16 : decode jdk_43_method_13_code 16 = .ok (.iload_n 2, 1) := by decide +kernel
theorem d_leq_17 : decode jdk_43_method_13_code 17 = .ok (.baload, 1) := by decide +kernel
theorem d_leq_18 : decode jdk_43_method_13_code 18 = .ok (.aload_n 1, 1) := by decide +kernel
theorem d_leq_19 : decode jdk_43_method_13_code 19 = .ok (.iload_n 2, 1) := by decide +kernel
theorem d_leq_20 : decode jdk_43_method_13_code 20 = .ok (.baload, 1) := by decide +kernel
theorem d_leq_21 : decode jdk_43_method_13_code 21 = .ok (.if_icmp .eq 5, 3) := by decide +kernel
theorem d_leq_24 : decode jdk_43_method_13_code 24 = .ok (.iconst 0, 1) := by decide +kernel
theorem d_leq_25 : decode jdk_43_method_13_code 25 = .ok (.ireturn, 1) := by decide +kernel
theorem d_leq_26 : decode jdk_43_method_13_code 26 = .ok (.iinc 2 1, 3) := by decide +kernel
theorem d_leq_29 : decode jdk_43_method_13_code 29 = .ok (.goto (-20), 3) := by decide +kernel
theorem d_leq_32 : decode jdk_43_method_13_code 32 = .ok (.iconst 1, 1) := by decide +kernel
theorem d_leq_33 : decode jdk_43_method_13_code 33 = .ok (.ireturn, 1) := by decide +kernel
theorem d_leq_34 : decode jdk_43_method_13_code 34 = .ok (.iconst 0, 1) := by decide +kernel
theorem d_leq_35 : decode jdk_43_method_13_code 35 = .ok (.ireturn, 1) := by decide +kernel
theorem d_cfal_0 : decode jdk_52_method_15_code 0 = .ok (.iload_n 1, 1) := by decide +kernel
theorem d_cfal_1 : decode jdk_52_method_15_code 1 = .ok (.aload_n 0, 1) := by decide +kernel
theorem d_cfal_2 : decode jdk_52_method_15_code 2 = .ok (.arraylength, 1) := by decide +kernel
theorem d_cfal_3 : decode jdk_52_method_15_code 3 = .ok (.isub, 1) := by decide +kernel
theorem d_cfal_4 : decode jdk_52_method_15_code 4 = .ok (.bipush 31, 2) := by decide +kernel
theorem d_cfal_6 : decode jdk_52_method_15_code 6 = .ok (.iushr, 1) := by decide +kernel
theorem d_cfal_7 : decode jdk_52_method_15_code 7 = .ok (.i2b, 1) := by decide +kernel
theorem d_cfal_8 : decode jdk_52_method_15_code 8 = .ok (.ireturn, 1) := by decide +kernel
theorem d_cmp3_0 : decode jdk_52_method_16_code 0 = .ok (.iload_n 2, 1) := by decide +kernel
theorem d_cmp3_1 : decode jdk_52_method_16_code 1 = .ok (.newarray .byte, 2) := by decide +kernel
theorem d_cmp3_3 : decode jdk_52_method_16_code 3 = .ok (.astore_n 3, 1) := by decide +kernel
theorem d_cmp3_4 : decode jdk_52_method_16_code 4 = .ok (.aload_n 0, 1) := by decide +kernel
theorem d_cmp3_5 : decode jdk_52_method_16_code 5 = .ok (.iload_n 1, 1) := by decide +kernel
theorem d_cmp3_6 : decode jdk_52_method_16_code 6 = .ok (.aload_n 3, 1) := by decide +kernel
theorem d_cmp3_7 : decode jdk_52_method_16_code 7 = .ok (.iconst 0, 1) := by decide +kernel
theorem d_cmp3_8 : decode jdk_52_method_16_code 8 = .ok (.iload_n 2, 1) := by decide +kernel
theorem d_cmp3_9 : decode jdk_52_method_16_code 9 = .ok (.invokestatic 115, 3) := by decide +kernel
theorem d_cmp3_12 : decode jdk_52_method_16_code 12 = .ok (.istore 4, 2) := by decide +kernel
theorem d_cmp3_14 : decode jdk_52_method_16_code 14 = .ok (.iload 4, 2) := by decide +kernel
theorem d_cmp3_16 : decode jdk_52_method_16_code 16 = .ok (.iload_n 2, 1) := by decide +kernel
theorem d_cmp3_17 : decode jdk_52_method_16_code 17 = .ok (.if_icmp .eq 40, 3) := by decide +kernel
theorem d_cmp3_57 : decode jdk_52_method_16_code 57 = .ok (.aload_n 3, 1) := by decide +kernel
theorem d_cmp3_58 : decode jdk_52_method_16_code 58 = .ok (.areturn, 1) := by decide +kernel
theorem d_cmp5_0 : decode jdk_52_method_21_code 0 = .ok (.iconst 0, 1) := by decide +kernel
theorem d_cmp5_1 : decode jdk_52_method_21_code 1 = .ok (.istore 5, 2) := by decide +kernel
theorem d_cmp5_3 : decode jdk_52_method_21_code 3 = .ok (.iload 5, 2) := by decide +kernel
theorem d_cmp5_5 : decode jdk_52_method_21_code 5 = .ok (.iload 4, 2) := by decide +kernel
theorem d_cmp5_7 : decode jdk_52_method_21_code 7 = .ok (.if_icmp .ge 37, 3) := by decide +kernel
theorem d_cmp5_10 : decode jdk_52_method_21_code 10 = .ok (.aload_n 0, 1) := by decide +kernel
theorem d_cmp5_11 : decode jdk_52_method_21_code 11 = .ok (.iload_n 1, 1) := by decide +kernel
theorem d_cmp5_12 : decode jdk_52_method_21_code 12 = .ok (.caload, 1) := by decide +kernel
theorem d_cmp5_13 : decode jdk_52_method_21_code 13 = .ok (.istore 6, 2) := by decide +kernel
theorem d_cmp5_15 : decode jdk_52_method_21_code 15 = .ok (.iload 6, 2) := by decide +kernel
theorem d_cmp5_17 : decode jdk_52_method_21_code 17 = .ok (.sipush 255, 3) := by decide +kernel
theorem d_cmp5_20 : decode jdk_52_method_21_code 20 = .ok (.if_icmp .le 6, 3) := by decide +kernel
theorem d_cmp5_26 : decode jdk_52_method_21_code 26 = .ok (.aload_n 2, 1) := by decide +kernel
theorem d_cmp5_27 : decode jdk_52_method_21_code 27 = .ok (.iload_n 3, 1) := by decide +kernel
theorem d_cmp5_28 : decode jdk_52_method_21_code 28 = .ok (.iload 6, 2) := by decide +kernel
theorem d_cmp5_30 : decode jdk_52_method_21_code 30 = .ok (.i2b, 1) := by decide +kernel
theorem d_cmp5_31 : decode jdk_52_method_21_code 31 = .ok (.bastore, 1) := by decide +kernel
theorem d_cmp5_32 : decode jdk_52_method_21_code 32 = .ok (.iinc 1 1, 3) := by decide +kernel
theorem d_cmp5_35 : decode jdk_52_method_21_code 35 = .ok (.iinc 3 1, 3) := by decide +kernel
theorem d_cmp5_38 : decode jdk_52_method_21_code 38 = .ok (.iinc 5 1, 3) := by decide +kernel
theorem d_cmp5_41 : decode jdk_52_method_21_code 41 = .ok (.goto (-38), 3) := by decide +kernel
theorem d_cmp5_44 : decode jdk_52_method_21_code 44 = .ok (.iload 4, 2) := by decide +kernel
theorem d_cmp5_46 : decode jdk_52_method_21_code 46 = .ok (.ireturn, 1) := by decide +kernel
theorem d_kof_0 : decode method_2_code 0 = .ok (.iload_n 0, 1) := by decide +kernel
theorem d_kof_1 : decode method_2_code 1 = .ok (.ifCond .ne 7, 3) := by decide +kernel
theorem d_kof_4 : decode method_2_code 4 = .ok (.getstatic 7, 3) := by decide +kernel
theorem d_kof_7 : decode method_2_code 7 = .ok (.areturn, 1) := by decide +kernel
theorem d_kof_8 : decode method_2_code 8 = .ok (.iload_n 0, 1) := by decide +kernel
theorem d_kof_9 : decode method_2_code 9 = .ok (.iconst 1, 1) := by decide +kernel
theorem d_kof_10 : decode method_2_code 10 = .ok (.if_icmp .ne 7, 3) := by decide +kernel
theorem d_kof_13 : decode method_2_code 13 = .ok (.getstatic 13, 3) := by decide +kernel
theorem d_kof_16 : decode method_2_code 16 = .ok (.areturn, 1) := by decide +kernel
theorem d_kof_17 : decode method_2_code 17 = .ok (.iload_n 0, 1) := by decide +kernel
theorem d_kof_18 : decode method_2_code 18 = .ok (.iconst 2, 1) := by decide +kernel
theorem d_kof_19 : decode method_2_code 19 = .ok (.if_icmp .ne 7, 3) := by decide +kernel
theorem d_kof_22 : decode method_2_code 22 = .ok (.getstatic 16, 3) := by decide +kernel
theorem d_kof_25 : decode method_2_code 25 = .ok (.areturn, 1) := by decide +kernel
theorem d_kof_26 : decode method_2_code 26 = .ok (.iload_n 0, 1) := by decide +kernel
theorem d_kof_27 : decode method_2_code 27 = .ok (.iconst 3, 1) := by decide +kernel
theorem d_kof_28 : decode method_2_code 28 = .ok (.if_icmp .ne 7, 3) := by decide +kernel
theorem d_kof_31 : decode method_2_code 31 = .ok (.getstatic 19, 3) := by decide +kernel
theorem d_kof_34 : decode method_2_code 34 = .ok (.areturn, 1) := by decide +kernel
theorem d_kof_35 : decode method_2_code 35 = .ok (.iload_n 0, 1) := by decide +kernel
theorem d_kof_36 : decode method_2_code 36 = .ok (.iconst 4, 1) := by decide +kernel
theorem d_kof_37 : decode method_2_code 37 = .ok (.if_icmp .ne 7, 3) := by decide +kernel
theorem d_kof_40 : decode method_2_code 40 = .ok (.getstatic 22, 3) := by decide +kernel
theorem d_kof_43 : decode method_2_code 43 = .ok (.areturn, 1) := by decide +kernel
theorem d_kof_44 : decode method_2_code 44 = .ok (.iload_n 0, 1) := by decide +kernel
theorem d_kof_45 : decode method_2_code 45 = .ok (.iconst 5, 1) := by decide +kernel
theorem d_kof_46 : decode method_2_code 46 = .ok (.if_icmp .ne 7, 3) := by decide +kernel
theorem d_kof_49 : decode method_2_code 49 = .ok (.getstatic 25, 3) := by decide +kernel
theorem d_kof_52 : decode method_2_code 52 = .ok (.areturn, 1) := by decide +kernel
theorem d_kof_53 : decode method_2_code 53 = .ok (.getstatic 28, 3) := by decide +kernel
theorem d_kof_56 : decode method_2_code 56 = .ok (.areturn, 1) := by decide +kernel
theorem d_str_0 : decode method_3_code 0 = .ok (.iload_n 0, 1) := by decide +kernel
theorem d_str_1 : decode method_3_code 1 = .ok (.ifCond .ne 14, 3) := by decide +kernel
theorem d_str_4 : decode method_3_code 4 = .ok (.new 31, 3) := by decide +kernel
theorem d_str_7 : decode method_3_code 7 = .ok (.dup, 1) := by decide +kernel
theorem d_str_8 : decode method_3_code 8 = .ok (.iconst 0, 1) := by decide +kernel
theorem d_str_9 : decode method_3_code 9 = .ok (.newarray .char, 2) := by decide +kernel
theorem d_str_11 : decode method_3_code 11 = .ok (.invokespecial 33, 3) := by decide +kernel
theorem d_str_14 : decode method_3_code 14 = .ok (.areturn, 1) := by decide +kernel
theorem d_str_15 : decode method_3_code 15 = .ok (.iload_n 0, 1) := by decide +kernel
theorem d_str_16 : decode method_3_code 16 = .ok (.iconst 1, 1) := by decide +kernel
theorem d_str_17 : decode method_3_code 17 = .ok (.if_icmp .ne 18, 3) := by decide +kernel
theorem d_str_20 : decode method_3_code 20 = .ok (.new 31, 3) := by decide +kernel
theorem d_str_23 : decode method_3_code 23 = .ok (.dup, 1) := by decide +kernel
theorem d_str_24 : decode method_3_code 24 = .ok (.iconst 1, 1) := by decide +kernel
theorem d_str_25 : decode method_3_code 25 = .ok (.newarray .char, 2) := by decide +kernel
theorem d_str_27 : decode method_3_code 27 = .ok (.dup, 1) := by decide +kernel
theorem d_str_28 : decode method_3_code 28 = .ok (.iconst 0, 1) := by decide +kernel
theorem d_str_29 : decode method_3_code 29 = .ok (.iload_n 1, 1) := by decide +kernel
theorem d_str_30 : decode method_3_code 30 = .ok (.castore, 1) := by decide +kernel
theorem d_str_31 : decode method_3_code 31 = .ok (.invokespecial 33, 3) := by decide +kernel
theorem d_str_34 : decode method_3_code 34 = .ok (.areturn, 1) := by decide +kernel
theorem d_str_35 : decode method_3_code 35 = .ok (.new 31, 3) := by decide +kernel
theorem d_str_38 : decode method_3_code 38 = .ok (.dup, 1) := by decide +kernel
theorem d_str_39 : decode method_3_code 39 = .ok (.iconst 2, 1) := by decide +kernel
theorem d_str_40 : decode method_3_code 40 = .ok (.newarray .char, 2) := by decide +kernel
theorem d_str_42 : decode method_3_code 42 = .ok (.dup, 1) := by decide +kernel
theorem d_str_43 : decode method_3_code 43 = .ok (.iconst 0, 1) := by decide +kernel
theorem d_str_44 : decode method_3_code 44 = .ok (.iload_n 1, 1) := by decide +kernel
theorem d_str_45 : decode method_3_code 45 = .ok (.castore, 1) := by decide +kernel
theorem d_str_46 : decode method_3_code 46 = .ok (.dup, 1) := by decide +kernel
theorem d_str_47 : decode method_3_code 47 = .ok (.iconst 1, 1) := by decide +kernel
theorem d_str_48 : decode method_3_code 48 = .ok (.iload_n 2, 1) := by decide +kernel
theorem d_str_49 : decode method_3_code 49 = .ok (.castore, 1) := by decide +kernel
theorem d_str_50 : decode method_3_code 50 = .ok (.invokespecial 33, 3) := by decide +kernel
theorem d_str_53 : decode method_3_code 53 = .ok (.areturn, 1) := by decide +kernel
theorem d_tini_0 : decode prog_21_method_1_code 0 = .ok (.aload_n 0, 1) := by decide +kernel
theorem d_tini_1 : decode prog_21_method_1_code 1 = .ok (.invokespecial 1, 3) := by decide +kernel
theorem d_tini_4 : decode prog_21_method_1_code 4 = .ok (.aload_n 0, 1) := by decide +kernel
theorem d_tini_5 : decode prog_21_method_1_code 5 = .ok (.aload_n 1, 1) := by decide +kernel
theorem d_tini_6 : decode prog_21_method_1_code 6 = .ok (.putfield 7, 3) := by decide +kernel
theorem d_tini_9 : decode prog_21_method_1_code 9 = .ok (.aload_n 0, 1) := by decide +kernel
theorem d_tini_10 : decode prog_21_method_1_code 10 = .ok (.aload_n 2, 1) := by decide +kernel
theorem d_tini_11 : decode prog_21_method_1_code 11 = .ok (.putfield 13, 3) := by decide +kernel
theorem d_tini_14 : decode prog_21_method_1_code 14 = .ok (.aload_n 0, 1) := by decide +kernel
theorem d_tini_15 : decode prog_21_method_1_code 15 = .ok (.iload_n 3, 1) := by decide +kernel
theorem d_tini_16 : decode prog_21_method_1_code 16 = .ok (.putfield 17, 3) := by decide +kernel
theorem d_tini_19 : decode prog_21_method_1_code 19 = .ok (.return_, 1) := by decide +kernel
theorem d_isym_0 : decode prog_21_method_3_code 0 = .ok (.aload_n 0, 1) := by decide +kernel
theorem d_isym_1 : decode prog_21_method_3_code 1 = .ok (.getfield 7, 3) := by decide +kernel
theorem d_isym_4 : decode prog_21_method_3_code 4 = .ok (.getstatic 32, 3) := by decide +kernel
theorem d_isym_7 : decode prog_21_method_3_code 7 = .ok (.if_acmp .ne 18, 3) := by decide +kernel
theorem d_isym_10 : decode prog_21_method_3_code 10 = .ok (.aload_n 0, 1) := by decide +kernel
theorem d_isym_11 : decode prog_21_method_3_code 11 = .ok (.getfield 13, 3) := by decide +kernel
theorem d_isym_14 : decode prog_21_method_3_code 14 = .ok (.aload_n 1, 1) := by decide +kernel
theorem d_isym_15 : decode prog_21_method_3_code 15 = .ok (.invokevirtual 35, 3) := by decide +kernel
theorem d_isym_18 : decode prog_21_method_3_code 18 = .ok (.ifCond .eq 7, 3) := by decide +kernel
theorem d_isym_21 : decode prog_21_method_3_code 21 = .ok (.iconst 1, 1) := by decide +kernel
theorem d_isym_22 : decode prog_21_method_3_code 22 = .ok (.goto 4, 3) := by decide +kernel
theorem d_isym_25 : decode prog_21_method_3_code 25 = .ok (.iconst 0, 1) := by decide +kernel
theorem d_isym_26 : decode prog_21_method_3_code 26 = .ok (.ireturn, 1) := by decide +kernel
/-- a char's low byte, signed: what a Latin-1 String holds of it -/
def b8 (c : Int32) : Int32 := c.toInt8.toInt32
theorem b8_b8 (c : Int32) : (b8 c).toInt8.toInt32 = b8 c := by simp [b8]
theorem set_next {f : Int32 → Value} {cs : List Int32} {i k : Nat} {z : Value} (hi : i < cs.length) : ((cs.take i).map f ++ List.replicate (k + 1) z).set i (f cs[i]) = (cs.take (i + 1)).map f ++ List.replicate k z := by
  have hl : ((cs.take i).map f).length = i := by simp; omega
  have e : (cs.take (i + 1)).map f = (cs.take i).map f ++ [f cs[i]] := by
    rw [List.take_add_one, List.getElem?_eq_getElem hi, List.map_append]; rfl
  rw [List.set_append_right _ _ (by omega), hl, Nat.sub_self, List.replicate_succ, List.set_cons_zero, e, List.append_assoc]; rfl
theorem hcs0 : ∀ d ∈ ([] : List Int32), ¬ d < 0 ∧ ¬ 255 < d := fun d hd => nomatch hd
theorem hcsC {c : Int32} {cs : List Int32} (p : ¬ c < 0 ∧ ¬ 255 < c) (q : ∀ d ∈ cs, ¬ d < 0 ∧ ¬ 255 < d) : ∀ d ∈ c :: cs, ¬ d < 0 ∧ ¬ 255 < d := fun d hd => (List.mem_cons.mp hd).elim (fun e => e ▸ p) (q d)
theorem sub1 {a : Addr} {sf : List Addr} (h : a ∈ sf) : ∀ z ∈ [a], z ∈ sf := fun z hz => by cases List.mem_singleton.mp hz; exact h
theorem sub0 {sf : List Addr} : ∀ z ∈ ([] : List Addr), z ∈ sf := fun z hz => nomatch hz
def b_cmp5 : Bx := (({ frames := 0, cells := 0, slots := 0, locals := 0 } : Room), (⟨"java/lang/StringUTF16", "compress", "([CI[BII)I"⟩ : MethodName), jdk_52_method_21_code, 7, (Option.some Jvm.ClassFile.FieldType.int))
theorem ef_cmp5 (a d : Addr) (cs : List Int32) (m : MethodId) : entryFrame m #[.ref a, .int (0 : Int32), .ref d, .int (0 : Int32), .int (Int32.ofNat cs.length)] 7 = mkF m 0 #[.val (.ref a), .val (.int (0 : Int32)), .val (.ref d), .val (.int (0 : Int32)), .val (.int (Int32.ofNat cs.length)), .unset, .unset] [] := by first | (simp [entryFrame, mkF, argsToLocals, Value.category]; done) | rfl
theorem pn_java_lang_StringUTF16 : plainName "java/lang/StringUTF16" = true := by first | (simp [plainName, overriddenIn]; done) | decide +kernel
theorem pd_cmp5 : parseMethodDescriptor "([CI[BII)I" = some ⟨[(.array .char), .int, (.array .byte), .int, .int], some .int⟩ := by decide +kernel
set_option maxRecDepth 65536 in
set_option maxHeartbeats 4000000 in
theorem ct_cmp5 {a0 : Array Value} {Z : State} (hw : ∀ d ∈ tables_1, d.before a0 Z = true) (l : Launch) (nar kn : Bool) (hnr : nar = false) (h0 : Heap) (a d : Addr) (cs : List Int32) (Fa : Ar Z h0 a .char (cs.map Value.int)) (Fd : Ar Z h0 d .byte (List.replicate cs.length (.int 0))) (hne : a ≠ d) (hcs : ∀ c ∈ cs, ¬ c < 0 ∧ ¬ 255 < c) :
    Ct l Z EL1 (⟨"java/lang/StringUTF16", "compress", "([CI[BII)I"⟩ : MethodName) jdk_52_method_21_code 7 (Option.some Jvm.ClassFile.FieldType.int) ({ frames := 0, cells := 0, slots := 0, locals := 0 } : Room) #[.ref a, .int (0 : Int32), .ref d, .int (0 : Int32), .int (Int32.ofNat cs.length)] h0 [d] nar kn (fun v h sn => v = some (.int (Int32.ofNat cs.length)) ∧ sn = [] ∧ Ar Z h d .byte (cs.map fun c => Value.int (b8 c))) := by
  refine Ct.intro pn_java_lang_StringUTF16 (ew hw) (ef_cmp5 a d cs) ?_
  intro x hl hn0 hkn hsf hh H0
  have hnar : x.nar = false := hn0.trans hnr
  have H0 : Hr x b_cmp5 Z EL1 0 0 h0 [d] 0 #[.val (.ref a), .val (.int (0 : Int32)), .val (.ref d), .val (.int (0 : Int32)), .val (.int (Int32.ofNat cs.length)), .unset, .unset] [] := H0
  have hlen : cs.length < 2147483648 := by simpa using Fa.len
  have H1 : Hr x b_cmp5 Z EL1 0 0 h0 [d] 1 #[.val (.ref a), .val (.int (0 : Int32)), .val (.ref d), .val (.int (0 : Int32)), .val (.int (Int32.ofNat cs.length)), .unset, .unset] [.int (0 : Int32)] := H0.iconst d_cmp5_0
  have H2 : Hr x b_cmp5 Z EL1 0 0 h0 [d] 3 #[.val (.ref a), .val (.int (0 : Int32)), .val (.ref d), .val (.int (0 : Int32)), .val (.int (Int32.ofNat cs.length)), .val (.int (0 : Int32)), .unset] [] := H1.istore d_cmp5_1
  have loop : ∀ (k i : Nat) (h : Heap) (o : Slot), i + k = cs.length → (o = .unset ∨ ∃ w, o = .val w ∧ w.category = 1) → Ar Z h a .char (cs.map Value.int) → Ar Z h d .byte ((cs.take i).map (fun c => Value.int (b8 c)) ++ List.replicate k (.int 0)) → Hr x b_cmp5 Z EL1 0 0 h [d] 3 #[.val (.ref a), .val (.int (Int32.ofNat i)), .val (.ref d), .val (.int (Int32.ofNat i)), .val (.int (Int32.ofNat cs.length)), .val (.int (Int32.ofNat i)), o] [] → Ends x b_cmp5 Z EL1 (fun v h sn => v = some (.int (Int32.ofNat cs.length)) ∧ sn = [] ∧ Ar Z h d .byte (cs.map fun c => Value.int (b8 c))) := by
    intro k
    induction k with
    | zero =>
      intro i h o hi ho Fa Fd H
      obtain rfl : i = cs.length := by omega
      have H3 : Hr x b_cmp5 Z EL1 0 0 h [d] 5 #[.val (.ref a), .val (.int (Int32.ofNat cs.length)), .val (.ref d), .val (.int (Int32.ofNat cs.length)), .val (.int (Int32.ofNat cs.length)), .val (.int (Int32.ofNat cs.length)), o] [.int (Int32.ofNat cs.length)] := H.iload d_cmp5_3
      have H4 : Hr x b_cmp5 Z EL1 0 0 h [d] 7 #[.val (.ref a), .val (.int (Int32.ofNat cs.length)), .val (.ref d), .val (.int (Int32.ofNat cs.length)), .val (.int (Int32.ofNat cs.length)), .val (.int (Int32.ofNat cs.length)), o] [.int (Int32.ofNat cs.length), .int (Int32.ofNat cs.length)] := H3.iload d_cmp5_5
      have H5 : Hr x b_cmp5 Z EL1 0 0 h [d] 44 #[.val (.ref a), .val (.int (Int32.ofNat cs.length)), .val (.ref d), .val (.int (Int32.ofNat cs.length)), .val (.int (Int32.ofNat cs.length)), .val (.int (Int32.ofNat cs.length)), o] [] := H4.icmpT d_cmp5_7 (XT.ii_ge_t (by simp))
      have H6 : Hr x b_cmp5 Z EL1 0 0 h [d] 46 #[.val (.ref a), .val (.int (Int32.ofNat cs.length)), .val (.ref d), .val (.int (Int32.ofNat cs.length)), .val (.int (Int32.ofNat cs.length)), .val (.int (Int32.ofNat cs.length)), o] [.int (Int32.ofNat cs.length)] := H5.iload d_cmp5_44
      exact H6.finI d_cmp5_46 ⟨rfl, rfl, by simpa using Fd⟩ sub0
    | succ k ih =>
      intro i h o hi ho Fa Fd H
      have hi1 : i < cs.length := by omega
      have hlt : Int32.ofNat i < Int32.ofNat cs.length := by rw [Int32.lt_iff_toInt_lt, toInt_of rfl (by omega), toInt_of rfl (by omega)]; omega
      obtain ⟨hc0, hc1⟩ := hcs cs[i] (List.getElem_mem hi1)
      have H3 : Hr x b_cmp5 Z EL1 0 0 h [d] 5 #[.val (.ref a), .val (.int (Int32.ofNat i)), .val (.ref d), .val (.int (Int32.ofNat i)), .val (.int (Int32.ofNat cs.length)), .val (.int (Int32.ofNat i)), o] [.int (Int32.ofNat i)] := H.iload d_cmp5_3
      have H4 : Hr x b_cmp5 Z EL1 0 0 h [d] 7 #[.val (.ref a), .val (.int (Int32.ofNat i)), .val (.ref d), .val (.int (Int32.ofNat i)), .val (.int (Int32.ofNat cs.length)), .val (.int (Int32.ofNat i)), o] [.int (Int32.ofNat cs.length), .int (Int32.ofNat i)] := H3.iload d_cmp5_5
      have H5 : Hr x b_cmp5 Z EL1 0 0 h [d] 10 #[.val (.ref a), .val (.int (Int32.ofNat i)), .val (.ref d), .val (.int (Int32.ofNat i)), .val (.int (Int32.ofNat cs.length)), .val (.int (Int32.ofNat i)), o] [] := H4.icmpF d_cmp5_7 (XT.ii_ge_f hlt)
      have H6 : Hr x b_cmp5 Z EL1 0 0 h [d] 11 #[.val (.ref a), .val (.int (Int32.ofNat i)), .val (.ref d), .val (.int (Int32.ofNat i)), .val (.int (Int32.ofNat cs.length)), .val (.int (Int32.ofNat i)), o] [.ref a] := H5.aloadN d_cmp5_10
      have H7 : Hr x b_cmp5 Z EL1 0 0 h [d] 12 #[.val (.ref a), .val (.int (Int32.ofNat i)), .val (.ref d), .val (.int (Int32.ofNat i)), .val (.int (Int32.ofNat cs.length)), .val (.int (Int32.ofNat i)), o] [.int (Int32.ofNat i), .ref a] := H6.iloadN d_cmp5_11
      have H8 : Hr x b_cmp5 Z EL1 0 0 h [d] 13 #[.val (.ref a), .val (.int (Int32.ofNat i)), .val (.ref d), .val (.int (Int32.ofNat i)), .val (.int (Int32.ofNat cs.length)), .val (.int (Int32.ofNat i)), o] [.int (cs[i])] := H7.caload Fa d_cmp5_12 (i := i) rfl (by simp [hi1])
      have H9 : Hr x b_cmp5 Z EL1 0 0 h [d] 15 #[.val (.ref a), .val (.int (Int32.ofNat i)), .val (.ref d), .val (.int (Int32.ofNat i)), .val (.int (Int32.ofNat cs.length)), .val (.int (Int32.ofNat i)), .val (.int (cs[i]))] [] := H8.istore d_cmp5_13 (hl := XS.store1 (o := o) rfl ho rfl)
      have H10 : Hr x b_cmp5 Z EL1 0 0 h [d] 17 #[.val (.ref a), .val (.int (Int32.ofNat i)), .val (.ref d), .val (.int (Int32.ofNat i)), .val (.int (Int32.ofNat cs.length)), .val (.int (Int32.ofNat i)), .val (.int (cs[i]))] [.int (cs[i])] := H9.iload d_cmp5_15
      have H11 : Hr x b_cmp5 Z EL1 0 0 h [d] 20 #[.val (.ref a), .val (.int (Int32.ofNat i)), .val (.ref d), .val (.int (Int32.ofNat i)), .val (.int (Int32.ofNat cs.length)), .val (.int (Int32.ofNat i)), .val (.int (cs[i]))] [.int (255 : Int32), .int (cs[i])] := H10.sipush d_cmp5_17
      have H12 : Hr x b_cmp5 Z EL1 0 0 h [d] 26 #[.val (.ref a), .val (.int (Int32.ofNat i)), .val (.ref d), .val (.int (Int32.ofNat i)), .val (.int (Int32.ofNat cs.length)), .val (.int (Int32.ofNat i)), .val (.int (cs[i]))] [] := H11.icmpT d_cmp5_20 (XT.ii_le_t hc1)
      have H13 : Hr x b_cmp5 Z EL1 0 0 h [d] 27 #[.val (.ref a), .val (.int (Int32.ofNat i)), .val (.ref d), .val (.int (Int32.ofNat i)), .val (.int (Int32.ofNat cs.length)), .val (.int (Int32.ofNat i)), .val (.int (cs[i]))] [.ref d] := H12.aloadN d_cmp5_26
      have H14 : Hr x b_cmp5 Z EL1 0 0 h [d] 28 #[.val (.ref a), .val (.int (Int32.ofNat i)), .val (.ref d), .val (.int (Int32.ofNat i)), .val (.int (Int32.ofNat cs.length)), .val (.int (Int32.ofNat i)), .val (.int (cs[i]))] [.int (Int32.ofNat i), .ref d] := H13.iloadN d_cmp5_27
      have H15 : Hr x b_cmp5 Z EL1 0 0 h [d] 30 #[.val (.ref a), .val (.int (Int32.ofNat i)), .val (.ref d), .val (.int (Int32.ofNat i)), .val (.int (Int32.ofNat cs.length)), .val (.int (Int32.ofNat i)), .val (.int (cs[i]))] [.int (cs[i]), .int (Int32.ofNat i), .ref d] := H14.iload d_cmp5_28
      have H16 : Hr x b_cmp5 Z EL1 0 0 h [d] 31 #[.val (.ref a), .val (.int (Int32.ofNat i)), .val (.ref d), .val (.int (Int32.ofNat i)), .val (.int (Int32.ofNat cs.length)), .val (.int (Int32.ofNat i)), .val (.int (cs[i]))] [.int (b8 cs[i]), .int (Int32.ofNat i), .ref d] := H15.i2b d_cmp5_30
      obtain ⟨h', Wd, H17⟩ := H16.bastore (List.mem_singleton.mpr rfl) Fd d_cmp5_31 (i := i) rfl (by simp; omega) (hw := (b8_b8 _))
      have H17 : Hr x b_cmp5 Z EL1 0 0 h' [d] 32 #[.val (.ref a), .val (.int (Int32.ofNat i)), .val (.ref d), .val (.int (Int32.ofNat i)), .val (.int (Int32.ofNat cs.length)), .val (.int (Int32.ofNat i)), .val (.int (cs[i]))] [] := H17
      have H18 : Hr x b_cmp5 Z EL1 0 0 h' [d] 35 #[.val (.ref a), .val (.int (Int32.ofNat (i + 1))), .val (.ref d), .val (.int (Int32.ofNat i)), .val (.int (Int32.ofNat cs.length)), .val (.int (Int32.ofNat i)), .val (.int (cs[i]))] [] := H17.iinc d_cmp5_32 (hv := (inc_ofNat i).symm)
      have H19 : Hr x b_cmp5 Z EL1 0 0 h' [d] 38 #[.val (.ref a), .val (.int (Int32.ofNat (i + 1))), .val (.ref d), .val (.int (Int32.ofNat (i + 1))), .val (.int (Int32.ofNat cs.length)), .val (.int (Int32.ofNat i)), .val (.int (cs[i]))] [] := H18.iinc d_cmp5_35 (hv := (inc_ofNat i).symm)
      have H20 : Hr x b_cmp5 Z EL1 0 0 h' [d] 41 #[.val (.ref a), .val (.int (Int32.ofNat (i + 1))), .val (.ref d), .val (.int (Int32.ofNat (i + 1))), .val (.int (Int32.ofNat cs.length)), .val (.int (Int32.ofNat (i + 1))), .val (.int (cs[i]))] [] := H19.iinc d_cmp5_38 (hv := (inc_ofNat i).symm)
      have H21 : Hr x b_cmp5 Z EL1 0 0 h' [d] 3 #[.val (.ref a), .val (.int (Int32.ofNat (i + 1))), .val (.ref d), .val (.int (Int32.ofNat (i + 1))), .val (.int (Int32.ofNat cs.length)), .val (.int (Int32.ofNat (i + 1))), .val (.int (cs[i]))] [] := H20.goto d_cmp5_41
      refine ih (i + 1) _ _ (by omega) (Or.inr ⟨_, rfl, rfl⟩) (Fa.other Wd hne) ?_ H21
      have := Fd.set Wd; rw [set_next (f := fun c => Value.int (b8 c)) hi1] at this; exact this
  exact loop cs.length 0 h0 .unset (by omega) (Or.inl rfl) Fa (by simpa using Fd) H2
def b_cmp3 (n : Nat) : Bx := (({ frames := 1, cells := 1, slots := n, locals := 18 } : Room), (⟨"java/lang/StringUTF16", "compress", "([CII)[B"⟩ : MethodName), jdk_52_method_16_code, 6, (Option.some (Jvm.ClassFile.FieldType.array Jvm.ClassFile.FieldType.byte)))
theorem ef_cmp3 (a : Addr) (cs : List Int32) (m : MethodId) : entryFrame m #[.ref a, .int (0 : Int32), .int (Int32.ofNat cs.length)] 6 = mkF m 0 #[.val (.ref a), .val (.int (0 : Int32)), .val (.int (Int32.ofNat cs.length)), .unset, .unset, .unset] [] := by first | (simp [entryFrame, mkF, argsToLocals, Value.category]; done) | rfl
theorem pd_cmp3 : parseMethodDescriptor "([CII)[B" = some ⟨[(.array .char), .int, .int], some (.array .byte)⟩ := by decide +kernel
set_option maxRecDepth 65536 in
set_option maxHeartbeats 4000000 in
theorem ct_cmp3 {a0 : Array Value} {Z : State} (hw : ∀ d ∈ tables_1, d.before a0 Z = true) (l : Launch) (nar kn : Bool) (hnr : nar = false) (h0 : Heap) (a : Addr) (cs : List Int32) (Fa : Ar Z h0 a .char (cs.map Value.int)) (hcap : cs.length ≤ 4000) (hcs : ∀ c ∈ cs, ¬ c < 0 ∧ ¬ 255 < c) :
    Ct l Z EL1 (⟨"java/lang/StringUTF16", "compress", "([CII)[B"⟩ : MethodName) jdk_52_method_16_code 6 (Option.some (Jvm.ClassFile.FieldType.array Jvm.ClassFile.FieldType.byte)) ({ frames := 1, cells := 1, slots := cs.length, locals := 18 } : Room) #[.ref a, .int (0 : Int32), .int (Int32.ofNat cs.length)] h0 [] nar kn (fun v h sn => ∃ t, v = some (.ref t) ∧ h0.size ≤ t ∧ sn = [t] ∧ Ar Z h t .byte (cs.map fun c => Value.int (b8 c))) := by
  refine Ct.intro pn_java_lang_StringUTF16 (ew hw) (ef_cmp3 a cs) ?_
  intro x hl hn0 hkn hsf hh H0
  have hnar : x.nar = false := hn0.trans hnr
  have H0 : Hr x (b_cmp3 cs.length) Z EL1 0 0 h0 [] 0 #[.val (.ref a), .val (.int (0 : Int32)), .val (.int (Int32.ofNat cs.length)), .unset, .unset, .unset] [] := H0
  have hclamp : (Int32.ofNat cs.length).toNatClampNeg = cs.length := clamp_of rfl (by omega)
  have hnn : ¬ Int32.ofNat cs.length < 0 := by rw [Int32.lt_iff_toInt_lt, toInt_of rfl (by omega)]; simp
  have H1 : Hr x (b_cmp3 cs.length) Z EL1 0 0 h0 [] 1 #[.val (.ref a), .val (.int (0 : Int32)), .val (.int (Int32.ofNat cs.length)), .unset, .unset, .unset] [.int (Int32.ofNat cs.length)] := H0.iloadN d_cmp3_0
  obtain ⟨h1, E1, Fd, H2⟩ := H1.newarray (aty := .byte) (cap := cs.length) (w30 hw) d_cmp3_1 hnn (Nat.le_of_eq hclamp) (by omega) (by first | (simp [b_cmp3, Bx.R]; done) | (simp [b_cmp3, Bx.R]; omega)) (by first | (simp [b_cmp3, Bx.R]; done) | (simp [b_cmp3, Bx.R]; omega))
  obtain ⟨d, g_d⟩ : ∃ z, z = h0.size := ⟨_, rfl⟩
  rw [← g_d] at Fd H2
  have Fd : Ar Z h1 d .byte (List.replicate cs.length (.int 0)) := (by have := Fd; rw [hclamp] at this; exact this)
  have H2 : Hr x (b_cmp3 cs.length) Z EL1 1 (0 + cs.length) h1 [d] 3 #[.val (.ref a), .val (.int (0 : Int32)), .val (.int (Int32.ofNat cs.length)), .unset, .unset, .unset] [.ref d] := H2
  have H3 : Hr x (b_cmp3 cs.length) Z EL1 1 (0 + cs.length) h1 [d] 4 #[.val (.ref a), .val (.int (0 : Int32)), .val (.int (Int32.ofNat cs.length)), .val (.ref d), .unset, .unset] [] := H2.astoreN d_cmp3_3
  have H4 : Hr x (b_cmp3 cs.length) Z EL1 1 (0 + cs.length) h1 [d] 5 #[.val (.ref a), .val (.int (0 : Int32)), .val (.int (Int32.ofNat cs.length)), .val (.ref d), .unset, .unset] [.ref a] := H3.aloadN d_cmp3_4
  have H5 : Hr x (b_cmp3 cs.length) Z EL1 1 (0 + cs.length) h1 [d] 6 #[.val (.ref a), .val (.int (0 : Int32)), .val (.int (Int32.ofNat cs.length)), .val (.ref d), .unset, .unset] [.int (0 : Int32), .ref a] := H4.iloadN d_cmp3_5
  have H6 : Hr x (b_cmp3 cs.length) Z EL1 1 (0 + cs.length) h1 [d] 7 #[.val (.ref a), .val (.int (0 : Int32)), .val (.int (Int32.ofNat cs.length)), .val (.ref d), .unset, .unset] [.ref d, .int (0 : Int32), .ref a] := H5.aloadN d_cmp3_6
  have H7 : Hr x (b_cmp3 cs.length) Z EL1 1 (0 + cs.length) h1 [d] 8 #[.val (.ref a), .val (.int (0 : Int32)), .val (.int (Int32.ofNat cs.length)), .val (.ref d), .unset, .unset] [.int (0 : Int32), .ref d, .int (0 : Int32), .ref a] := H6.iconst d_cmp3_7
  have H8 : Hr x (b_cmp3 cs.length) Z EL1 1 (0 + cs.length) h1 [d] 9 #[.val (.ref a), .val (.int (0 : Int32)), .val (.int (Int32.ofNat cs.length)), .val (.ref d), .unset, .unset] [.int (Int32.ofNat cs.length), .int (0 : Int32), .ref d, .int (0 : Int32), .ref a] := H7.iloadN d_cmp3_8
  obtain ⟨_, h2, _, ⟨rfl, rfl, Fd2⟩, K2, H9⟩ := H8.callS (argsL := [.ref a, .int (0 : Int32), .ref d, .int (0 : Int32), .int (Int32.ofNat cs.length)]) (rest := []) (Wr := 0) (ct_cmp5 hw x.l x.nar x.kn hnar h1 a d cs (Fa.ext E1) Fd (neN (by have := Fa.lt; omega)) hcs) (sub1 (List.mem_cons_self ..)) (w31 hw) (w32 hw) (w28 hw) (w33 hw) d_cmp3_9 pd_cmp5 rfl (hf := by first | (simp [b_cmp3, Bx.R]; done) | (simp [b_cmp3, Bx.R]; omega)) (hl := by first | (simp [b_cmp3, Bx.R]; done) | (simp [b_cmp3, Bx.R]; omega)) (hc := by first | (simp [b_cmp3, Bx.R]; done) | (simp [b_cmp3, Bx.R]; omega)) (hs := by first | (simp [b_cmp3, Bx.R]; done) | (simp [b_cmp3, Bx.R]; omega))
  have H9 : Hr x (b_cmp3 cs.length) Z EL1 1 (0 + cs.length + 0) h2 [d] 12 #[.val (.ref a), .val (.int (0 : Int32)), .val (.int (Int32.ofNat cs.length)), .val (.ref d), .unset, .unset] [.int (Int32.ofNat cs.length)] := H9
  have H10 : Hr x (b_cmp3 cs.length) Z EL1 1 (0 + cs.length + 0) h2 [d] 14 #[.val (.ref a), .val (.int (0 : Int32)), .val (.int (Int32.ofNat cs.length)), .val (.ref d), .val (.int (Int32.ofNat cs.length)), .unset] [] := H9.istore d_cmp3_12
  have H11 : Hr x (b_cmp3 cs.length) Z EL1 1 (0 + cs.length + 0) h2 [d] 16 #[.val (.ref a), .val (.int (0 : Int32)), .val (.int (Int32.ofNat cs.length)), .val (.ref d), .val (.int (Int32.ofNat cs.length)), .unset] [.int (Int32.ofNat cs.length)] := H10.iload d_cmp3_14
  have H12 : Hr x (b_cmp3 cs.length) Z EL1 1 (0 + cs.length + 0) h2 [d] 17 #[.val (.ref a), .val (.int (0 : Int32)), .val (.int (Int32.ofNat cs.length)), .val (.ref d), .val (.int (Int32.ofNat cs.length)), .unset] [.int (Int32.ofNat cs.length), .int (Int32.ofNat cs.length)] := H11.iloadN d_cmp3_16
  have H13 : Hr x (b_cmp3 cs.length) Z EL1 1 (0 + cs.length + 0) h2 [d] 57 #[.val (.ref a), .val (.int (0 : Int32)), .val (.int (Int32.ofNat cs.length)), .val (.ref d), .val (.int (Int32.ofNat cs.length)), .unset] [] := H12.icmpT d_cmp3_17 (XT.ii_eq_t rfl)
  have H14 : Hr x (b_cmp3 cs.length) Z EL1 1 (0 + cs.length + 0) h2 [d] 58 #[.val (.ref a), .val (.int (0 : Int32)), .val (.int (Int32.ofNat cs.length)), .val (.ref d), .val (.int (Int32.ofNat cs.length)), .unset] [.ref d] := H13.aloadN d_cmp3_57
  exact H14.finA d_cmp3_58 ⟨d, rfl, by omega, rfl, Fd2⟩ (sub1 (List.mem_cons_self ..)) (hK := by first | (simp [b_cmp3, Bx.R]; done) | (simp [b_cmp3, Bx.R]; omega)) (hS := by first | (simp [b_cmp3, Bx.R]; done) | (simp [b_cmp3, Bx.R]; omega))
def b_cfal : Bx := (({ frames := 0, cells := 0, slots := 0, locals := 0 } : Room), (⟨"java/lang/StringUTF16", "coderFromArrayLen", "([BI)B"⟩ : MethodName), jdk_52_method_15_code, 2, (Option.some Jvm.ClassFile.FieldType.byte))
theorem ef_cfal (d : Addr) (n : Nat) (m : MethodId) : entryFrame m #[.ref d, .int (Int32.ofNat n)] 2 = mkF m 0 #[.val (.ref d), .val (.int (Int32.ofNat n))] [] := by first | (simp [entryFrame, mkF, argsToLocals, Value.category]; done) | rfl
theorem pd_cfal : parseMethodDescriptor "([BI)B" = some ⟨[(.array .byte), .int], some .byte⟩ := by decide +kernel
set_option maxRecDepth 65536 in
set_option maxHeartbeats 4000000 in
theorem ct_cfal {a0 : Array Value} {Z : State} (hw : ∀ d ∈ tables_1, d.before a0 Z = true) (l : Launch) (nar kn : Bool) (hnr : nar = false) (h0 : Heap) (d : Addr) (vs : List Value) (n : Nat) (hn : vs.length = n) (Fd : Ar Z h0 d .byte vs) :
    Ct l Z EL1 (⟨"java/lang/StringUTF16", "coderFromArrayLen", "([BI)B"⟩ : MethodName) jdk_52_method_15_code 2 (Option.some Jvm.ClassFile.FieldType.byte) ({ frames := 0, cells := 0, slots := 0, locals := 0 } : Room) #[.ref d, .int (Int32.ofNat n)] h0 [] nar kn (fun v h sn => v = some (.int 0) ∧ sn = [] ∧ h = h0) := by
  refine Ct.intro pn_java_lang_StringUTF16 (ew hw) (ef_cfal d n) ?_
  intro x hl hn0 hkn hsf hh H0
  have hnar : x.nar = false := hn0.trans hnr
  have H0 : Hr x b_cfal Z EL1 0 0 h0 [] 0 #[.val (.ref d), .val (.int (Int32.ofNat n))] [] := H0
  have H1 : Hr x b_cfal Z EL1 0 0 h0 [] 1 #[.val (.ref d), .val (.int (Int32.ofNat n))] [.int (Int32.ofNat n)] := H0.iloadN d_cfal_0
  have H2 : Hr x b_cfal Z EL1 0 0 h0 [] 2 #[.val (.ref d), .val (.int (Int32.ofNat n))] [.ref d, .int (Int32.ofNat n)] := H1.aloadN d_cfal_1
  have H3 : Hr x b_cfal Z EL1 0 0 h0 [] 3 #[.val (.ref d), .val (.int (Int32.ofNat n))] [.int (Int32.ofNat n), .int (Int32.ofNat n)] := H2.arraylength Fd d_cfal_2 (hn := (by rw [hn]))
  have H4 : Hr x b_cfal Z EL1 0 0 h0 [] 4 #[.val (.ref d), .val (.int (Int32.ofNat n))] [.int (0 : Int32)] := H3.isub d_cfal_3 (hv := (by simp))
  have H5 : Hr x b_cfal Z EL1 0 0 h0 [] 6 #[.val (.ref d), .val (.int (Int32.ofNat n))] [.int (31 : Int32), .int (0 : Int32)] := H4.bipush d_cfal_4
  have H6 : Hr x b_cfal Z EL1 0 0 h0 [] 7 #[.val (.ref d), .val (.int (Int32.ofNat n))] [.int (0 : Int32)] := H5.iushr d_cfal_6 (hv := (by decide))
  have H7 : Hr x b_cfal Z EL1 0 0 h0 [] 8 #[.val (.ref d), .val (.int (Int32.ofNat n))] [.int (0 : Int32)] := H6.i2b d_cfal_7 (hv := (by decide))
  exact H7.finZ d_cfal_8 (t := .byte) (by first | rfl | decide) ⟨rfl, rfl, rfl⟩ sub0
def b_sini4 (n : Nat) : Bx := (({ frames := 2, cells := 4, slots := 8 + n, locals := 35 } : Room), (⟨"java/lang/String", "<init>", "([CIILjava/lang/Void;)V"⟩ : MethodName), jdk_42_method_149_code, 6, (Option.none : Option Jvm.ClassFile.FieldType))
theorem ef_sini4 (s a : Addr) (cs : List Int32) (m : MethodId) : entryFrame m #[.ref s, .ref a, .int (0 : Int32), .int (Int32.ofNat cs.length), .null] 6 = mkF m 0 #[.val (.ref s), .val (.ref a), .val (.int (0 : Int32)), .val (.int (Int32.ofNat cs.length)), .val (.null), .unset] [] := by first | (simp [entryFrame, mkF, argsToLocals, Value.category]; done) | rfl
theorem pn_java_lang_String : plainName "java/lang/String" = true := by first | (simp [plainName, overriddenIn]; done) | decide +kernel
theorem pd_sini4 : parseMethodDescriptor "([CIILjava/lang/Void;)V" = some ⟨[(.array .char), .int, .int, (.object "java/lang/Void")], none⟩ := by decide +kernel
set_option maxRecDepth 65536 in
set_option maxHeartbeats 4000000 in
theorem ct_sini4 {a0 : Array Value} {Z : State} (hw : ∀ d ∈ tables_1, d.before a0 Z = true) (l : Launch) (nar kn : Bool) (hnr : nar = false) (h0 : Heap) (s a : Addr) (cs : List Int32) (Es : Exa Z h0 s "java/lang/String") (Fc : Fld Z h0 s "java/lang/String" "coder" "B" (.int 0)) (Fv : Fld Z h0 s "java/lang/String" "value" "[B" .null) (Fa : Ar Z h0 a .char (cs.map Value.int)) (hcap : cs.length ≤ 4000) (hcs : ∀ c ∈ cs, ¬ c < 0 ∧ ¬ 255 < c) (cz : Int32) (O : Sta Z Z.heap "java/lang/String" "COMPACT_STRINGS" "Z" (.int cz)) (hcz : ¬ cz = 0) :
    Ct l Z EL1 (⟨"java/lang/String", "<init>", "([CIILjava/lang/Void;)V"⟩ : MethodName) jdk_42_method_149_code 6 (Option.none : Option Jvm.ClassFile.FieldType) ({ frames := 2, cells := 4, slots := 8 + cs.length, locals := 35 } : Room) #[.ref s, .ref a, .int (0 : Int32), .int (Int32.ofNat cs.length), .null] h0 [s] nar kn (fun v h sn => v = none ∧ sn = [] ∧ ∃ t, Str Z h s t (cs.map b8)) := by
  refine Ct.intro pn_java_lang_String (ew hw) (ef_sini4 s a cs) ?_
  intro x hl hn0 hkn hsf hh H0
  have hnar : x.nar = false := hn0.trans hnr
  have H0 : Hr x (b_sini4 cs.length) Z EL1 0 0 h0 [s] 0 #[.val (.ref s), .val (.ref a), .val (.int (0 : Int32)), .val (.int (Int32.ofNat cs.length)), .val (.null), .unset] [] := H0
  have H1 : Hr x (b_sini4 cs.length) Z EL1 0 0 h0 [s] 1 #[.val (.ref s), .val (.ref a), .val (.int (0 : Int32)), .val (.int (Int32.ofNat cs.length)), .val (.null), .unset] [.ref s] := H0.aloadN d_sini4_0
  have H2 : Hr x (b_sini4 cs.length) Z EL1 0 0 h0 [s] 4 #[.val (.ref s), .val (.ref a), .val (.int (0 : Int32)), .val (.int (Int32.ofNat cs.length)), .val (.null), .unset] [] := H1.initO (Wr := 0) (w22 hw) (w23 hw) (w24 hw) d_sini4_1 (hf := by first | (simp [b_sini4, Bx.R]; done) | (simp [b_sini4, Bx.R]; omega)) (hl := by first | (simp [b_sini4, Bx.R]; done) | (simp [b_sini4, Bx.R]; omega))
  have H3 : Hr x (b_sini4 cs.length) Z EL1 0 0 h0 [s] 5 #[.val (.ref s), .val (.ref a), .val (.int (0 : Int32)), .val (.int (Int32.ofNat cs.length)), .val (.null), .unset] [.int (Int32.ofNat cs.length)] := H2.iloadN d_sini4_4
  by_cases hz : cs.length = 0
  · obtain rfl : cs = [] := List.length_eq_zero_iff.mp hz
    have H4 : Hr x (b_sini4 ([] : List Int32).length) Z EL1 0 0 h0 [s] 8 #[.val (.ref s), .val (.ref a), .val (.int (0 : Int32)), .val (.int (Int32.ofNat ([] : List Int32).length)), .val (.null), .unset] [] := H3.ifF d_sini4_5 (XT.i0_ne_f rfl)
    have H5 : Hr x (b_sini4 ([] : List Int32).length) Z EL1 0 0 h0 [s] 9 #[.val (.ref s), .val (.ref a), .val (.int (0 : Int32)), .val (.int (Int32.ofNat ([] : List Int32).length)), .val (.null), .unset] [.ref s] := H4.aloadN d_sini4_8
    obtain ⟨la, lt, h1, E1, L1, n1, H6⟩ := H5.ldcS (n := 0) (bs := []) (z := 0) (w41 hw) (wStr hw) (ew hw) (by decide) (by decide) (by decide) (by decide) d_sini4_9 (by decide) (by decide) hnar (by first | (simp [b_sini4, Bx.R]; done) | (simp [b_sini4, Bx.R]; omega)) (by first | (simp [b_sini4, Bx.R]; done) | (simp [b_sini4, Bx.R]; omega))
    have H6 : Hr x (b_sini4 ([] : List Int32).length) Z EL1 2 4 h1 [s] 11 #[.val (.ref s), .val (.ref a), .val (.int (0 : Int32)), .val (.int (Int32.ofNat ([] : List Int32).length)), .val (.null), .unset] [.ref la, .ref s] := H6
    have H7 : Hr x (b_sini4 ([] : List Int32).length) Z EL1 2 4 h1 [s] 14 #[.val (.ref s), .val (.ref a), .val (.int (0 : Int32)), .val (.int (Int32.ofNat ([] : List Int32).length)), .val (.null), .unset] [.ref lt, .ref s] := H6.getF (w39 hw) L1.2.2.1 d_sini4_11
    obtain ⟨h2, W2, H8⟩ := H7.putF (List.mem_singleton.mpr rfl) (w39 hw) (Fv.ext E1) (Es.ext E1) (Or.inr ⟨(w40 hw), rfl, rfl⟩) (w12 hw) d_sini4_14 (ty := (.array .byte))
    have H8 : Hr x (b_sini4 ([] : List Int32).length) Z EL1 2 4 h2 [s] 17 #[.val (.ref s), .val (.ref a), .val (.int (0 : Int32)), .val (.int (Int32.ofNat ([] : List Int32).length)), .val (.null), .unset] [] := H8
    have q1 := n1 s (List.mem_singleton.mpr rfl)
    have L2 := L1.other W2 (Ne.symm q1.1) (Ne.symm q1.2)
    have H9 : Hr x (b_sini4 ([] : List Int32).length) Z EL1 2 4 h2 [s] 18 #[.val (.ref s), .val (.ref a), .val (.int (0 : Int32)), .val (.int (Int32.ofNat ([] : List Int32).length)), .val (.null), .unset] [.ref s] := H8.aloadN d_sini4_17
    obtain ⟨lb, lu, h3, E3, L3, n3, H10⟩ := H9.ldcS (n := 0) (bs := []) (z := 0) (w41 hw) (wStr hw) (ew hw) (by decide) (by decide) (by decide) (by decide) d_sini4_18 (by decide) (by decide) hnar (by first | (simp [b_sini4, Bx.R]; done) | (simp [b_sini4, Bx.R]; omega)) (by first | (simp [b_sini4, Bx.R]; done) | (simp [b_sini4, Bx.R]; omega))
    have H10 : Hr x (b_sini4 ([] : List Int32).length) Z EL1 4 8 h3 [s] 20 #[.val (.ref s), .val (.ref a), .val (.int (0 : Int32)), .val (.int (Int32.ofNat ([] : List Int32).length)), .val (.null), .unset] [.ref lb, .ref s] := H10
    have H11 : Hr x (b_sini4 ([] : List Int32).length) Z EL1 4 8 h3 [s] 23 #[.val (.ref s), .val (.ref a), .val (.int (0 : Int32)), .val (.int (Int32.ofNat ([] : List Int32).length)), .val (.null), .unset] [.int (0 : Int32), .ref s] := H10.getF (w37 hw) L3.2.1 d_sini4_20
    have slne := slot_ne (a0 := a0) (C := "java/lang/String") (n := "value") (n' := "coder") (Or.inr (w40 hw)) (Or.inr (w38 hw)) (by decide) (t := .array .byte) (t' := .byte) (by decide) (by decide)
    have Fv2 := Fld.same W2 (Fv.ext E1)
    have Fc2 := Fld.other W2 (Fc.ext E1) (Or.inr (Ne.symm slne))
    obtain ⟨h4, W4, H12⟩ := H11.putF (List.mem_singleton.mpr rfl) (w37 hw) (Fc2.ext E3) ((Es.ext E1).wr W2 |>.ext E3) (Or.inr ⟨(w38 hw), rfl, rfl⟩) (w12 hw) d_sini4_23 (ty := .byte)
    have H12 : Hr x (b_sini4 ([] : List Int32).length) Z EL1 4 8 h4 [s] 26 #[.val (.ref s), .val (.ref a), .val (.int (0 : Int32)), .val (.int (Int32.ofNat ([] : List Int32).length)), .val (.null), .unset] [] := H12
    have q3 := n3 s (List.mem_singleton.mpr rfl)
    have q4 : lt ≠ s := Ne.symm q1.2
    refine H12.finN d_sini4_26 rfl (by first | (simp [b_sini4, Bx.R]; done) | (simp [b_sini4, Bx.R]; omega)) (by first | (simp [b_sini4, Bx.R]; done) | (simp [b_sini4, Bx.R]; omega)) sub0 ⟨rfl, rfl, lt, ((Es.ext E1).wr W2 |>.ext E3).wr W4, Fld.same W4 (Fc2.ext E3), (Fv2.ext E3).other W4 (Or.inr slne), ((L2.2.2.2).ext E3).other W4 q4⟩
  · have hn0 : ¬ Int32.ofNat cs.length = 0 := fun q => hz (by have := congrArg Int32.toInt q; rw [toInt_of rfl (by omega)] at this; simpa using this)
    have H13 : Hr x (b_sini4 cs.length) Z EL1 0 0 h0 [s] 27 #[.val (.ref s), .val (.ref a), .val (.int (0 : Int32)), .val (.int (Int32.ofNat cs.length)), .val (.null), .unset] [] := H3.ifT d_sini4_5 (XT.i0_ne_t hn0)
    have H14 : Hr x (b_sini4 cs.length) Z EL1 0 0 h0 [s] 30 #[.val (.ref s), .val (.ref a), .val (.int (0 : Int32)), .val (.int (Int32.ofNat cs.length)), .val (.null), .unset] [.int cz] := H13.getS (w25 hw) (O.ext H13.old) d_sini4_27
    have H15 : Hr x (b_sini4 cs.length) Z EL1 0 0 h0 [s] 33 #[.val (.ref s), .val (.ref a), .val (.int (0 : Int32)), .val (.int (Int32.ofNat cs.length)), .val (.null), .unset] [] := H14.ifF d_sini4_30 (XT.i0_eq_f hcz)
    have H16 : Hr x (b_sini4 cs.length) Z EL1 0 0 h0 [s] 34 #[.val (.ref s), .val (.ref a), .val (.int (0 : Int32)), .val (.int (Int32.ofNat cs.length)), .val (.null), .unset] [.ref a] := H15.aloadN d_sini4_33
    have H17 : Hr x (b_sini4 cs.length) Z EL1 0 0 h0 [s] 35 #[.val (.ref s), .val (.ref a), .val (.int (0 : Int32)), .val (.int (Int32.ofNat cs.length)), .val (.null), .unset] [.int (0 : Int32), .ref a] := H16.iloadN d_sini4_34
    have H18 : Hr x (b_sini4 cs.length) Z EL1 0 0 h0 [s] 36 #[.val (.ref s), .val (.ref a), .val (.int (0 : Int32)), .val (.int (Int32.ofNat cs.length)), .val (.null), .unset] [.int (Int32.ofNat cs.length), .int (0 : Int32), .ref a] := H17.iloadN d_sini4_35
    obtain ⟨_, h1, _, ⟨t, rfl, ht, rfl, Ft⟩, K1, H19⟩ := H18.callS (argsL := [.ref a, .int (0 : Int32), .int (Int32.ofNat cs.length)]) (rest := []) (Wr := 0) (ct_cmp3 hw x.l x.nar x.kn hnar h0 a cs Fa hcap hcs) sub0 (w26 hw) (w27 hw) (w28 hw) (w29 hw) d_sini4_36 pd_cmp3 rfl (hf := by first | (simp [b_sini4, Bx.R]; done) | (simp [b_sini4, Bx.R]; omega)) (hl := by first | (simp [b_sini4, Bx.R]; done) | (simp [b_sini4, Bx.R]; omega)) (hc := by first | (simp [b_sini4, Bx.R]; done) | (simp [b_sini4, Bx.R]; omega)) (hs := by first | (simp [b_sini4, Bx.R]; done) | (simp [b_sini4, Bx.R]; omega))
    have H19 : Hr x (b_sini4 cs.length) Z EL1 1 (0 + cs.length) h1 [t, s] 39 #[.val (.ref s), .val (.ref a), .val (.int (0 : Int32)), .val (.int (Int32.ofNat cs.length)), .val (.null), .unset] [.ref t] := H19
    have H20 : Hr x (b_sini4 cs.length) Z EL1 1 (0 + cs.length) h1 [t, s] 41 #[.val (.ref s), .val (.ref a), .val (.int (0 : Int32)), .val (.int (Int32.ofNat cs.length)), .val (.null), .val (.ref t)] [] := H19.astore d_sini4_39
    have H21 : Hr x (b_sini4 cs.length) Z EL1 1 (0 + cs.length) h1 [t, s] 42 #[.val (.ref s), .val (.ref a), .val (.int (0 : Int32)), .val (.int (Int32.ofNat cs.length)), .val (.null), .val (.ref t)] [.ref s] := H20.aloadN d_sini4_41
    have H22 : Hr x (b_sini4 cs.length) Z EL1 1 (0 + cs.length) h1 [t, s] 44 #[.val (.ref s), .val (.ref a), .val (.int (0 : Int32)), .val (.int (Int32.ofNat cs.length)), .val (.null), .val (.ref t)] [.ref t, .ref s] := H21.aload d_sini4_42
    have H23 : Hr x (b_sini4 cs.length) Z EL1 1 (0 + cs.length) h1 [t, s] 45 #[.val (.ref s), .val (.ref a), .val (.int (0 : Int32)), .val (.int (Int32.ofNat cs.length)), .val (.null), .val (.ref t)] [.int (Int32.ofNat cs.length), .ref t, .ref s] := H22.iloadN d_sini4_44
    obtain ⟨_, h2, _, ⟨rfl, rfl, e2⟩, K2, H24⟩ := H23.callS (argsL := [.ref t, .int (Int32.ofNat cs.length)]) (rest := [.ref s]) (Wr := 1) (ct_cfal hw x.l x.nar x.kn hnar h1 t (cs.map fun c => Value.int (b8 c)) cs.length (by simp) Ft) sub0 (w34 hw) (w35 hw) (w28 hw) (w36 hw) d_sini4_45 pd_cfal rfl (hf := by first | (simp [b_sini4, Bx.R]; done) | (simp [b_sini4, Bx.R]; omega)) (hl := by first | (simp [b_sini4, Bx.R]; done) | (simp [b_sini4, Bx.R]; omega)) (hc := by first | (simp [b_sini4, Bx.R]; done) | (simp [b_sini4, Bx.R]; omega)) (hs := by first | (simp [b_sini4, Bx.R]; done) | (simp [b_sini4, Bx.R]; omega))
    rw [e2] at H24
    have H24 : Hr x (b_sini4 cs.length) Z EL1 1 (0 + cs.length + 0) h1 [t, s] 48 #[.val (.ref s), .val (.ref a), .val (.int (0 : Int32)), .val (.int (Int32.ofNat cs.length)), .val (.null), .val (.ref t)] [.int (0 : Int32), .ref s] := H24
    have hlt := exa_lt Es
    have hst : @Ne Nat s t := by omega
    have slne := slot_ne (a0 := a0) (C := "java/lang/String") (n := "value") (n' := "coder") (Or.inr (w40 hw)) (Or.inr (w38 hw)) (by decide) (t := .array .byte) (t' := .byte) (by decide) (by decide)
    obtain ⟨h3, W3, H25⟩ := H24.putF (by simp) (w37 hw) (Fc.keep K1 nin0) (Es.keep K1) (Or.inr ⟨(w38 hw), rfl, rfl⟩) (w12 hw) d_sini4_48 (ty := .byte)
    have H25 : Hr x (b_sini4 cs.length) Z EL1 1 (0 + cs.length + 0) h3 [t, s] 51 #[.val (.ref s), .val (.ref a), .val (.int (0 : Int32)), .val (.int (Int32.ofNat cs.length)), .val (.null), .val (.ref t)] [] := H25
    have H26 : Hr x (b_sini4 cs.length) Z EL1 1 (0 + cs.length + 0) h3 [t, s] 52 #[.val (.ref s), .val (.ref a), .val (.int (0 : Int32)), .val (.int (Int32.ofNat cs.length)), .val (.null), .val (.ref t)] [.ref s] := H25.aloadN d_sini4_51
    have H27 : Hr x (b_sini4 cs.length) Z EL1 1 (0 + cs.length + 0) h3 [t, s] 54 #[.val (.ref s), .val (.ref a), .val (.int (0 : Int32)), .val (.int (Int32.ofNat cs.length)), .val (.null), .val (.ref t)] [.ref t, .ref s] := H26.aload d_sini4_52
    obtain ⟨h4, W4, H28⟩ := H27.putF (by simp) (w39 hw) ((Fv.keep K1 nin0).other W3 (Or.inr slne)) ((Es.keep K1).wr W3) (Or.inr ⟨(w40 hw), rfl, rfl⟩) (w12 hw) d_sini4_54 (ty := (.array .byte))
    have H28 : Hr x (b_sini4 cs.length) Z EL1 1 (0 + cs.length + 0) h4 [t, s] 57 #[.val (.ref s), .val (.ref a), .val (.int (0 : Int32)), .val (.int (Int32.ofNat cs.length)), .val (.null), .val (.ref t)] [] := H28
    refine H28.finN d_sini4_57 rfl (by first | (simp [b_sini4, Bx.R]; done) | (simp [b_sini4, Bx.R]; omega)) (by first | (simp [b_sini4, Bx.R]; done) | (simp [b_sini4, Bx.R]; omega)) sub0 ⟨rfl, rfl, t, ((Es.keep K1).wr W3).wr W4, (Fld.same W3 (Fc.keep K1 nin0)).other W4 (Or.inr (Ne.symm slne)), Fld.same W4 ((Fv.keep K1 nin0).other W3 (Or.inr slne)), ?_⟩
    have := (Ft.other W3 (Ne.symm hst)).other W4 (Ne.symm hst); simpa [List.map_map, Function.comp_def] using this
def b_sini1 (n : Nat) : Bx := (({ frames := 3, cells := 4, slots := 8 + n, locals := 52 } : Room), (⟨"java/lang/String", "<init>", "([C)V"⟩ : MethodName), jdk_42_method_3_code, 2, (Option.none : Option Jvm.ClassFile.FieldType))
theorem ef_sini1 (s a : Addr) (m : MethodId) : entryFrame m #[.ref s, .ref a] 2 = mkF m 0 #[.val (.ref s), .val (.ref a)] [] := by first | (simp [entryFrame, mkF, argsToLocals, Value.category]; done) | rfl
theorem pd_sini1 : parseMethodDescriptor "([C)V" = some ⟨[(.array .char)], none⟩ := by decide +kernel
set_option maxRecDepth 65536 in
set_option maxHeartbeats 4000000 in
theorem ct_sini1 {a0 : Array Value} {Z : State} (hw : ∀ d ∈ tables_1, d.before a0 Z = true) (l : Launch) (nar kn : Bool) (hnr : nar = false) (h0 : Heap) (s a : Addr) (cs : List Int32) (Es : Exa Z h0 s "java/lang/String") (Fc : Fld Z h0 s "java/lang/String" "coder" "B" (.int 0)) (Fv : Fld Z h0 s "java/lang/String" "value" "[B" .null) (Fa : Ar Z h0 a .char (cs.map Value.int)) (hcap : cs.length ≤ 4000) (hcs : ∀ c ∈ cs, ¬ c < 0 ∧ ¬ 255 < c) (cz : Int32) (O : Sta Z Z.heap "java/lang/String" "COMPACT_STRINGS" "Z" (.int cz)) (hcz : ¬ cz = 0) :
    Ct l Z EL1 (⟨"java/lang/String", "<init>", "([C)V"⟩ : MethodName) jdk_42_method_3_code 2 (Option.none : Option Jvm.ClassFile.FieldType) ({ frames := 3, cells := 4, slots := 8 + cs.length, locals := 52 } : Room) #[.ref s, .ref a] h0 [s] nar kn (fun v h sn => v = none ∧ sn = [] ∧ ∃ t, Str Z h s t (cs.map b8)) := by
  refine Ct.intro pn_java_lang_String (ew hw) (ef_sini1 s a) ?_
  intro x hl hn0 hkn hsf hh H0
  have hnar : x.nar = false := hn0.trans hnr
  have H0 : Hr x (b_sini1 cs.length) Z EL1 0 0 h0 [s] 0 #[.val (.ref s), .val (.ref a)] [] := H0
  have H1 : Hr x (b_sini1 cs.length) Z EL1 0 0 h0 [s] 1 #[.val (.ref s), .val (.ref a)] [.ref s] := H0.aloadN d_sini1_0
  have H2 : Hr x (b_sini1 cs.length) Z EL1 0 0 h0 [s] 2 #[.val (.ref s), .val (.ref a)] [.ref a, .ref s] := H1.aloadN d_sini1_1
  have H3 : Hr x (b_sini1 cs.length) Z EL1 0 0 h0 [s] 3 #[.val (.ref s), .val (.ref a)] [.int (0 : Int32), .ref a, .ref s] := H2.iconst d_sini1_2
  have H4 : Hr x (b_sini1 cs.length) Z EL1 0 0 h0 [s] 4 #[.val (.ref s), .val (.ref a)] [.ref a, .int (0 : Int32), .ref a, .ref s] := H3.aloadN d_sini1_3
  have H5 : Hr x (b_sini1 cs.length) Z EL1 0 0 h0 [s] 5 #[.val (.ref s), .val (.ref a)] [.int (Int32.ofNat cs.length), .int (0 : Int32), .ref a, .ref s] := H4.arraylength Fa d_sini1_4 (hn := (by simp))
  have H6 : Hr x (b_sini1 cs.length) Z EL1 0 0 h0 [s] 6 #[.val (.ref s), .val (.ref a)] [.null, .int (Int32.ofNat cs.length), .int (0 : Int32), .ref a, .ref s] := H5.aconstNull d_sini1_5
  obtain ⟨_, h1, _, ⟨rfl, rfl, t, Fs⟩, K1, H7⟩ := H6.callI (argsL := [.ref a, .int (0 : Int32), .int (Int32.ofNat cs.length), .null]) (rest := []) (Wr := 0) (a := s) (ct_sini4 hw x.l x.nar x.kn hnar h0 s a cs Es Fc Fv Fa hcap hcs cz O hcz) (sub1 (List.mem_singleton.mpr rfl)) (w18 hw) (w19 hw) (w13 hw) (w21 hw) d_sini1_6 pd_sini4 rfl (hf := by first | (simp [b_sini1, Bx.R]; done) | (simp [b_sini1, Bx.R]; omega)) (hl := by first | (simp [b_sini1, Bx.R]; done) | (simp [b_sini1, Bx.R]; omega)) (hc := by first | (simp [b_sini1, Bx.R]; done) | (simp [b_sini1, Bx.R]; omega)) (hs := by first | (simp [b_sini1, Bx.R]; done) | (simp [b_sini1, Bx.R]; omega))
  have H7 : Hr x (b_sini1 cs.length) Z EL1 4 (0 + (8 + cs.length)) h1 [s] 9 #[.val (.ref s), .val (.ref a)] [] := H7
  exact H7.finN d_sini1_9 rfl (by first | (simp [b_sini1, Bx.R]; done) | (simp [b_sini1, Bx.R]; omega)) (by first | (simp [b_sini1, Bx.R]; done) | (simp [b_sini1, Bx.R]; omega)) sub0 ⟨rfl, rfl, t, Fs⟩
theorem Ar.uniq {Z : State} {h : Heap} {a : Addr} {ty ty' : FieldType} {vs ws : List Value} (A : Ar Z h a ty vs) (B : Ar Z h a ty' ws) : vs = ws := by
  obtain ⟨c, A1, A2, -⟩ := A
  obtain ⟨c', B1, B2, -⟩ := B
  cases A1.1.symm.trans B1.1
  exact A2.symm.trans B2
theorem int_inj : ∀ {as bs : List Int32}, as.map Value.int = bs.map Value.int → as = bs := fun {as bs} q => by
  have : Function.Injective Value.int := fun a b h => Value.int.inj h
  exact (List.map_inj_right (fun a b h => this h)).mp q
theorem Str.uniq {Z : State} {h : Heap} {a t u : Addr} {bs ds : List Int32} (F : Str Z h a t bs) (G : Str Z h a u ds) : bs = ds := by
  have e : t = u := Classical.byContradiction fun q => (F.2.2.1.ne G.2.2.1 (fun z => q (Value.ref.inj z))) rfl
  subst e
  exact int_inj (F.2.2.2.uniq G.2.2.2)
theorem ofNat_inj {m n : Nat} (hm : m < 2147483648) (hn : n < 2147483648) (q : Int32.ofNat m = Int32.ofNat n) : m = n := by
  have := congrArg Int32.toInt q
  rw [toInt_of rfl (by omega), toInt_of rfl (by omega)] at this
  omega
theorem take_next {as bs : List Int32} {i : Nat} (h1 : i < as.length) (h2 : i < bs.length) (q : as.take i = bs.take i) (e : as[i] = bs[i]) : as.take (i + 1) = bs.take (i + 1) := by
  rw [List.take_add_one, List.take_add_one, q, List.getElem?_eq_getElem h1, List.getElem?_eq_getElem h2, e]
def b_leq : Bx := (({ frames := 0, cells := 0, slots := 0, locals := 0 } : Room), (⟨"java/lang/StringLatin1", "equals", "([B[B)Z"⟩ : MethodName), jdk_43_method_13_code, 3, (Option.some Jvm.ClassFile.FieldType.boolean))
theorem ef_leq (t u : Addr) (m : MethodId) : entryFrame m #[.ref t, .ref u] 3 = mkF m 0 #[.val (.ref t), .val (.ref u), .unset] [] := by first | (simp [entryFrame, mkF, argsToLocals, Value.category]; done) | rfl
theorem pn_java_lang_StringLatin1 : plainName "java/lang/StringLatin1" = true := by first | (simp [plainName, overriddenIn]; done) | decide +kernel
theorem pd_leq : parseMethodDescriptor "([B[B)Z" = some ⟨[(.array .byte), (.array .byte)], some .boolean⟩ := by decide +kernel
set_option maxRecDepth 65536 in
set_option maxHeartbeats 4000000 in
theorem ct_leq {a0 : Array Value} {Z : State} (hw : ∀ d ∈ tables_1, d.before a0 Z = true) (l : Launch) (nar kn : Bool) (hnr : nar = false) (h0 : Heap) (t u : Addr) (bs ds : List Int32) (Ft : Ar Z h0 t .byte (bs.map Value.int)) (Fu : Ar Z h0 u .byte (ds.map Value.int)) :
    Ct l Z EL1 (⟨"java/lang/StringLatin1", "equals", "([B[B)Z"⟩ : MethodName) jdk_43_method_13_code 3 (Option.some Jvm.ClassFile.FieldType.boolean) ({ frames := 0, cells := 0, slots := 0, locals := 0 } : Room) #[.ref t, .ref u] h0 [] nar kn (fun v h sn => v = some (.int (if bs = ds then 1 else 0)) ∧ sn = [] ∧ h = h0) := by
  refine Ct.intro pn_java_lang_StringLatin1 (ew hw) (ef_leq t u) ?_
  intro x hl hn0 hkn hsf hh H0
  have hnar : x.nar = false := hn0.trans hnr
  have H0 : Hr x b_leq Z EL1 0 0 h0 [] 0 #[.val (.ref t), .val (.ref u), .unset] [] := H0
  have hb : bs.length < 2147483648 := by simpa using Ft.len
  have hd : ds.length < 2147483648 := by simpa using Fu.len
  have H1 : Hr x b_leq Z EL1 0 0 h0 [] 1 #[.val (.ref t), .val (.ref u), .unset] [.ref t] := H0.aloadN d_leq_0
  have H2 : Hr x b_leq Z EL1 0 0 h0 [] 2 #[.val (.ref t), .val (.ref u), .unset] [.int (Int32.ofNat bs.length)] := H1.arraylength Ft d_leq_1 (hn := (by simp))
  have H3 : Hr x b_leq Z EL1 0 0 h0 [] 3 #[.val (.ref t), .val (.ref u), .unset] [.ref u, .int (Int32.ofNat bs.length)] := H2.aloadN d_leq_2
  have H4 : Hr x b_leq Z EL1 0 0 h0 [] 4 #[.val (.ref t), .val (.ref u), .unset] [.int (Int32.ofNat ds.length), .int (Int32.ofNat bs.length)] := H3.arraylength Fu d_leq_3 (hn := (by simp))
  by_cases hl2 : bs.length = ds.length
  · have hlI : Int32.ofNat bs.length = Int32.ofNat ds.length := congrArg _ hl2
    have H5 : Hr x b_leq Z EL1 0 0 h0 [] 7 #[.val (.ref t), .val (.ref u), .unset] [] := H4.icmpF d_leq_4 (XT.ii_ne_f hlI)
    have H6 : Hr x b_leq Z EL1 0 0 h0 [] 8 #[.val (.ref t), .val (.ref u), .unset] [.int (0 : Int32)] := H5.iconst d_leq_7
    have H7 : Hr x b_leq Z EL1 0 0 h0 [] 9 #[.val (.ref t), .val (.ref u), .val (.int (0 : Int32))] [] := H6.istoreN d_leq_8
    have loop : ∀ (k i : Nat), i + k = bs.length → bs.take i = ds.take i → Hr x b_leq Z EL1 0 0 h0 [] 9 #[.val (.ref t), .val (.ref u), .val (.int (Int32.ofNat i))] [] → Ends x b_leq Z EL1 (fun v h sn => v = some (.int (if bs = ds then 1 else 0)) ∧ sn = [] ∧ h = h0) := by
      intro k
      induction k with
      | zero =>
        intro i hi hq H
        obtain rfl : i = bs.length := by omega
        have H8 : Hr x b_leq Z EL1 0 0 h0 [] 10 #[.val (.ref t), .val (.ref u), .val (.int (Int32.ofNat bs.length))] [.int (Int32.ofNat bs.length)] := H.iloadN d_leq_9
        have H9 : Hr x b_leq Z EL1 0 0 h0 [] 11 #[.val (.ref t), .val (.ref u), .val (.int (Int32.ofNat bs.length))] [.ref t, .int (Int32.ofNat bs.length)] := H8.aloadN d_leq_10
        have H10 : Hr x b_leq Z EL1 0 0 h0 [] 12 #[.val (.ref t), .val (.ref u), .val (.int (Int32.ofNat bs.length))] [.int (Int32.ofNat bs.length), .int (Int32.ofNat bs.length)] := H9.arraylength Ft d_leq_11 (hn := (by simp))
        have H11 : Hr x b_leq Z EL1 0 0 h0 [] 32 #[.val (.ref t), .val (.ref u), .val (.int (Int32.ofNat bs.length))] [] := H10.icmpT d_leq_12 (XT.ii_ge_t (by simp))
        have H12 : Hr x b_leq Z EL1 0 0 h0 [] 33 #[.val (.ref t), .val (.ref u), .val (.int (Int32.ofNat bs.length))] [.int (1 : Int32)] := H11.iconst d_leq_32
        have e : bs = ds := by rw [List.take_length] at hq; rw [hl2, List.take_length] at hq; exact hq
        exact H12.finZ d_leq_33 (t := .boolean) (by first | rfl | decide) ⟨by rw [if_pos e], rfl, rfl⟩ sub0
      | succ k ih =>
        intro i hi hq H
        have hi1 : i < bs.length := by omega
        have hi2 : i < ds.length := by omega
        have hlt : Int32.ofNat i < Int32.ofNat bs.length := by rw [Int32.lt_iff_toInt_lt, toInt_of rfl (by omega), toInt_of rfl (by omega)]; omega
        have H8 : Hr x b_leq Z EL1 0 0 h0 [] 10 #[.val (.ref t), .val (.ref u), .val (.int (Int32.ofNat i))] [.int (Int32.ofNat i)] := H.iloadN d_leq_9
        have H9 : Hr x b_leq Z EL1 0 0 h0 [] 11 #[.val (.ref t), .val (.ref u), .val (.int (Int32.ofNat i))] [.ref t, .int (Int32.ofNat i)] := H8.aloadN d_leq_10
        have H10 : Hr x b_leq Z EL1 0 0 h0 [] 12 #[.val (.ref t), .val (.ref u), .val (.int (Int32.ofNat i))] [.int (Int32.ofNat bs.length), .int (Int32.ofNat i)] := H9.arraylength Ft d_leq_11 (hn := (by simp))
        have H11 : Hr x b_leq Z EL1 0 0 h0 [] 15 #[.val (.ref t), .val (.ref u), .val (.int (Int32.ofNat i))] [] := H10.icmpF d_leq_12 (XT.ii_ge_f hlt)
        have H12 : Hr x b_leq Z EL1 0 0 h0 [] 16 #[.val (.ref t), .val (.ref u), .val (.int (Int32.ofNat i))] [.ref t] := H11.aloadN d_leq_15
        have H13 : Hr x b_leq Z EL1 0 0 h0 [] 17 #[.val (.ref t), .val (.ref u), .val (.int (Int32.ofNat i))] [.int (Int32.ofNat i), .ref t] := H12.iloadN d_leq_16
        have H14 : Hr x b_leq Z EL1 0 0 h0 [] 18 #[.val (.ref t), .val (.ref u), .val (.int (Int32.ofNat i))] [.int (bs[i])] := H13.baload Ft d_leq_17 (i := i) rfl (by simp [hi1])
        have H15 : Hr x b_leq Z EL1 0 0 h0 [] 19 #[.val (.ref t), .val (.ref u), .val (.int (Int32.ofNat i))] [.ref u, .int (bs[i])] := H14.aloadN d_leq_18
        have H16 : Hr x b_leq Z EL1 0 0 h0 [] 20 #[.val (.ref t), .val (.ref u), .val (.int (Int32.ofNat i))] [.int (Int32.ofNat i), .ref u, .int (bs[i])] := H15.iloadN d_leq_19
        have H17 : Hr x b_leq Z EL1 0 0 h0 [] 21 #[.val (.ref t), .val (.ref u), .val (.int (Int32.ofNat i))] [.int (ds[i]), .int (bs[i])] := H16.baload Fu d_leq_20 (i := i) rfl (by simp [hi2])
        by_cases he : bs[i] = ds[i]
        · have hinc := (inc_ofNat i).symm
          have H18 : Hr x b_leq Z EL1 0 0 h0 [] 26 #[.val (.ref t), .val (.ref u), .val (.int (Int32.ofNat i))] [] := H17.icmpT d_leq_21 (XT.ii_eq_t he)
          have H19 : Hr x b_leq Z EL1 0 0 h0 [] 29 #[.val (.ref t), .val (.ref u), .val (.int (Int32.ofNat (i + 1)))] [] := H18.iinc d_leq_26 (hv := hinc)
          have H20 : Hr x b_leq Z EL1 0 0 h0 [] 9 #[.val (.ref t), .val (.ref u), .val (.int (Int32.ofNat (i + 1)))] [] := H19.goto d_leq_29
          exact ih (i + 1) (by omega) (take_next hi1 hi2 hq he) H20
        · have hne : ¬ bs = ds := fun q => he (by subst q; rfl)
          have H21 : Hr x b_leq Z EL1 0 0 h0 [] 24 #[.val (.ref t), .val (.ref u), .val (.int (Int32.ofNat i))] [] := H17.icmpF d_leq_21 (XT.ii_eq_f he)
          have H22 : Hr x b_leq Z EL1 0 0 h0 [] 25 #[.val (.ref t), .val (.ref u), .val (.int (Int32.ofNat i))] [.int (0 : Int32)] := H21.iconst d_leq_24
          exact H22.finZ d_leq_25 (t := .boolean) (by first | rfl | decide) ⟨by rw [if_neg hne], rfl, rfl⟩ sub0
    exact loop bs.length 0 (by omega) rfl H7
  · have hne : ¬ bs = ds := fun q => hl2 (congrArg _ q)
    have H201 : Hr x b_leq Z EL1 0 0 h0 [] 34 #[.val (.ref t), .val (.ref u), .unset] [] := H4.icmpT d_leq_4 (XT.ii_ne_t fun q => hl2 (ofNat_inj hb hd q))
    have H202 : Hr x b_leq Z EL1 0 0 h0 [] 35 #[.val (.ref t), .val (.ref u), .unset] [.int (0 : Int32)] := H201.iconst d_leq_34
    exact H202.finZ d_leq_35 (t := .boolean) (by first | rfl | decide) ⟨by rw [if_neg hne], rfl, rfl⟩ sub0
def b_seq : Bx := (({ frames := 1, cells := 0, slots := 0, locals := 14 } : Room), (⟨"java/lang/String", "equals", "(Ljava/lang/Object;)Z"⟩ : MethodName), jdk_42_method_66_code, 3, (Option.some Jvm.ClassFile.FieldType.boolean))
theorem ef_seq (a c : Addr) (m : MethodId) : entryFrame m #[.ref a, .ref c] 3 = mkF m 0 #[.val (.ref a), .val (.ref c), .unset] [] := by first | (simp [entryFrame, mkF, argsToLocals, Value.category]; done) | rfl
theorem pd_seq : parseMethodDescriptor "(Ljava/lang/Object;)Z" = some ⟨[(.object "java/lang/Object")], some .boolean⟩ := by decide +kernel
set_option maxRecDepth 65536 in
set_option maxHeartbeats 4000000 in
theorem ct_seq {a0 : Array Value} {Z : State} (hw : ∀ d ∈ tables_1, d.before a0 Z = true) (l : Launch) (nar kn : Bool) (hnr : nar = false) (h0 : Heap) (a t c u : Addr) (bs ds : List Int32) (Fa : Str Z h0 a t bs) (Fc : Str Z h0 c u ds) (cz : Int32) (O : Sta Z Z.heap "java/lang/String" "COMPACT_STRINGS" "Z" (.int cz)) (hcz : ¬ cz = 0) :
    Ct l Z EL1 (⟨"java/lang/String", "equals", "(Ljava/lang/Object;)Z"⟩ : MethodName) jdk_42_method_66_code 3 (Option.some Jvm.ClassFile.FieldType.boolean) ({ frames := 1, cells := 0, slots := 0, locals := 14 } : Room) #[.ref a, .ref c] h0 [] nar kn (fun v h sn => v = some (.int (if bs = ds then 1 else 0)) ∧ sn = [] ∧ h = h0) := by
  refine Ct.intro pn_java_lang_String (ew hw) (ef_seq a c) ?_
  intro x hl hn0 hkn hsf hh H0
  have hnar : x.nar = false := hn0.trans hnr
  have H0 : Hr x b_seq Z EL1 0 0 h0 [] 0 #[.val (.ref a), .val (.ref c), .unset] [] := H0
  have H1 : Hr x b_seq Z EL1 0 0 h0 [] 1 #[.val (.ref a), .val (.ref c), .unset] [.ref a] := H0.aloadN d_seq_0
  have H2 : Hr x b_seq Z EL1 0 0 h0 [] 2 #[.val (.ref a), .val (.ref c), .unset] [.ref c, .ref a] := H1.aloadN d_seq_1
  by_cases hac : a = c
  · have e : bs = ds := by subst hac; exact Fa.uniq Fc
    have H3 : Hr x b_seq Z EL1 0 0 h0 [] 5 #[.val (.ref a), .val (.ref c), .unset] [] := H2.acmpF d_seq_2 (by simp [XT.acmp, hac])
    have H4 : Hr x b_seq Z EL1 0 0 h0 [] 6 #[.val (.ref a), .val (.ref c), .unset] [.int (1 : Int32)] := H3.iconst d_seq_5
    exact H4.finZ d_seq_6 (t := .boolean) (by first | rfl | decide) ⟨by rw [if_pos e], rfl, rfl⟩ sub0
  · have hne : XT.acmp .ne (.ref a) (.ref c) = true := by simp [XT.acmp, hac]
    have H5 : Hr x b_seq Z EL1 0 0 h0 [] 7 #[.val (.ref a), .val (.ref c), .unset] [] := H2.acmpT d_seq_2 hne
    have H6 : Hr x b_seq Z EL1 0 0 h0 [] 8 #[.val (.ref a), .val (.ref c), .unset] [.ref c] := H5.aloadN d_seq_7
    have H7 : Hr x b_seq Z EL1 0 0 h0 [] 11 #[.val (.ref a), .val (.ref c), .unset] [.int (1 : Int32)] := H6.inst (w77 hw) (Ins.self Fc.1) d_seq_8
    have H8 : Hr x b_seq Z EL1 0 0 h0 [] 14 #[.val (.ref a), .val (.ref c), .unset] [] := H7.ifF d_seq_11 (XT.i0_eq_f (by decide))
    have H9 : Hr x b_seq Z EL1 0 0 h0 [] 15 #[.val (.ref a), .val (.ref c), .unset] [.ref c] := H8.aloadN d_seq_14
    have H10 : Hr x b_seq Z EL1 0 0 h0 [] 18 #[.val (.ref a), .val (.ref c), .unset] [.ref c] := H9.cast (w77 hw) (Ins.self Fc.1) d_seq_15
    have H11 : Hr x b_seq Z EL1 0 0 h0 [] 19 #[.val (.ref a), .val (.ref c), .val (.ref c)] [] := H10.astoreN d_seq_18
    have H12 : Hr x b_seq Z EL1 0 0 h0 [] 22 #[.val (.ref a), .val (.ref c), .val (.ref c)] [.int cz] := H11.getS (w25 hw) (O.ext H11.old) d_seq_19
    have H13 : Hr x b_seq Z EL1 0 0 h0 [] 25 #[.val (.ref a), .val (.ref c), .val (.ref c)] [] := H12.ifF d_seq_22 (XT.i0_eq_f hcz)
    have H14 : Hr x b_seq Z EL1 0 0 h0 [] 26 #[.val (.ref a), .val (.ref c), .val (.ref c)] [.ref a] := H13.aloadN d_seq_25
    have H15 : Hr x b_seq Z EL1 0 0 h0 [] 29 #[.val (.ref a), .val (.ref c), .val (.ref c)] [.int (0 : Int32)] := H14.getF (w37 hw) Fa.2.1 d_seq_26
    have H16 : Hr x b_seq Z EL1 0 0 h0 [] 30 #[.val (.ref a), .val (.ref c), .val (.ref c)] [.ref c, .int (0 : Int32)] := H15.aloadN d_seq_29
    have H17 : Hr x b_seq Z EL1 0 0 h0 [] 33 #[.val (.ref a), .val (.ref c), .val (.ref c)] [.int (0 : Int32), .int (0 : Int32)] := H16.getF (w37 hw) Fc.2.1 d_seq_30
    have H18 : Hr x b_seq Z EL1 0 0 h0 [] 36 #[.val (.ref a), .val (.ref c), .val (.ref c)] [] := H17.icmpF d_seq_33 (XT.ii_ne_f rfl)
    have H19 : Hr x b_seq Z EL1 0 0 h0 [] 37 #[.val (.ref a), .val (.ref c), .val (.ref c)] [.ref a] := H18.aloadN d_seq_36
    have H20 : Hr x b_seq Z EL1 0 0 h0 [] 40 #[.val (.ref a), .val (.ref c), .val (.ref c)] [.ref t] := H19.getF (w39 hw) Fa.2.2.1 d_seq_37
    have H21 : Hr x b_seq Z EL1 0 0 h0 [] 41 #[.val (.ref a), .val (.ref c), .val (.ref c)] [.ref c, .ref t] := H20.aloadN d_seq_40
    have H22 : Hr x b_seq Z EL1 0 0 h0 [] 44 #[.val (.ref a), .val (.ref c), .val (.ref c)] [.ref u, .ref t] := H21.getF (w39 hw) Fc.2.2.1 d_seq_41
    obtain ⟨_, h1, _, ⟨rfl, rfl, e1⟩, K1, H23⟩ := H22.callS (argsL := [.ref t, .ref u]) (rest := []) (Wr := 0) (ct_leq hw x.l x.nar x.kn hnar h0 t u bs ds Fa.2.2.2 Fc.2.2.2) sub0 (w78 hw) (w79 hw) (w80 hw) (w81 hw) d_seq_44 pd_leq rfl (hf := by first | decide | (simp [b_seq, Bx.R]; done) | (simp [b_seq, Bx.R]; omega)) (hl := by first | decide | (simp [b_seq, Bx.R]; done) | (simp [b_seq, Bx.R]; omega)) (hc := by first | decide | (simp [b_seq, Bx.R]; done) | (simp [b_seq, Bx.R]; omega)) (hs := by first | decide | (simp [b_seq, Bx.R]; done) | (simp [b_seq, Bx.R]; omega))
    rw [e1] at H23
    have H23 : Hr x b_seq Z EL1 0 0 h0 [] 47 #[.val (.ref a), .val (.ref c), .val (.ref c)] [.int (if bs = ds then 1 else 0)] := H23
    by_cases he : bs = ds
    · have e2 : (if bs = ds then (1 : Int32) else 0) = 1 := if_pos he
      have H24 : Hr x b_seq Z EL1 0 0 h0 [] 50 #[.val (.ref a), .val (.ref c), .val (.ref c)] [] := H23.ifF d_seq_47 (XT.i0_eq_f (by rw [e2]; decide))
      have H25 : Hr x b_seq Z EL1 0 0 h0 [] 51 #[.val (.ref a), .val (.ref c), .val (.ref c)] [.int (1 : Int32)] := H24.iconst d_seq_50
      have H26 : Hr x b_seq Z EL1 0 0 h0 [] 55 #[.val (.ref a), .val (.ref c), .val (.ref c)] [.int (1 : Int32)] := H25.goto d_seq_51
      exact H26.finZ d_seq_55 (t := .boolean) (by first | rfl | decide) ⟨by rw [e2], rfl, rfl⟩ sub0
    · have e2 : (if bs = ds then (1 : Int32) else 0) = 0 := if_neg he
      have H27 : Hr x b_seq Z EL1 0 0 h0 [] 54 #[.val (.ref a), .val (.ref c), .val (.ref c)] [] := H23.ifT d_seq_47 (XT.i0_eq_t e2)
      have H28 : Hr x b_seq Z EL1 0 0 h0 [] 55 #[.val (.ref a), .val (.ref c), .val (.ref c)] [.int (0 : Int32)] := H27.iconst d_seq_54
      exact H28.finZ d_seq_55 (t := .boolean) (by first | rfl | decide) ⟨by rw [e2], rfl, rfl⟩ sub0
/-- the kinds: the address of the i-th, and that the statics hold them -/
def kd (ks : List Addr) (i : Int32) : Addr := if i = 0 then ks.getD 0 0 else if i = 1 then ks.getD 1 0 else if i = 2 then ks.getD 2 0 else if i = 3 then ks.getD 3 0 else if i = 4 then ks.getD 4 0 else if i = 5 then ks.getD 5 0 else ks.getD 6 0
def Kinds (Z : State) (ks : List Addr) : Prop := Sta Z Z.heap "com/example/strict_mapper/strictmapper/query/JpqlLexer$Kind" "WORD" "Lcom/example/strict_mapper/strictmapper/query/JpqlLexer$Kind;" (.ref (ks.getD 0 0)) ∧ Sta Z Z.heap "com/example/strict_mapper/strictmapper/query/JpqlLexer$Kind" "STRING" "Lcom/example/strict_mapper/strictmapper/query/JpqlLexer$Kind;" (.ref (ks.getD 1 0)) ∧ Sta Z Z.heap "com/example/strict_mapper/strictmapper/query/JpqlLexer$Kind" "NUMBER" "Lcom/example/strict_mapper/strictmapper/query/JpqlLexer$Kind;" (.ref (ks.getD 2 0)) ∧ Sta Z Z.heap "com/example/strict_mapper/strictmapper/query/JpqlLexer$Kind" "NAMED_PARAMETER" "Lcom/example/strict_mapper/strictmapper/query/JpqlLexer$Kind;" (.ref (ks.getD 3 0)) ∧ Sta Z Z.heap "com/example/strict_mapper/strictmapper/query/JpqlLexer$Kind" "NUMBERED_PARAMETER" "Lcom/example/strict_mapper/strictmapper/query/JpqlLexer$Kind;" (.ref (ks.getD 4 0)) ∧ Sta Z Z.heap "com/example/strict_mapper/strictmapper/query/JpqlLexer$Kind" "SYMBOL" "Lcom/example/strict_mapper/strictmapper/query/JpqlLexer$Kind;" (.ref (ks.getD 5 0)) ∧ Sta Z Z.heap "com/example/strict_mapper/strictmapper/query/JpqlLexer$Kind" "END" "Lcom/example/strict_mapper/strictmapper/query/JpqlLexer$Kind;" (.ref (ks.getD 6 0))
def b_kof : Bx := (({ frames := 0, cells := 0, slots := 0, locals := 0 } : Room), (⟨"com/example/strict_mapper/strictmapper/query/TokenIsSymbolPinLaw", "kindOf", "(I)Lcom/example/strict_mapper/strictmapper/query/JpqlLexer$Kind;"⟩ : MethodName), method_2_code, 1, (Option.some (Jvm.ClassFile.FieldType.object "com/example/strict_mapper/strictmapper/query/JpqlLexer$Kind")))
theorem ef_kof (i : Int32) (m : MethodId) : entryFrame m #[.int i] 1 = mkF m 0 #[.val (.int i)] [] := by first | (simp [entryFrame, mkF, argsToLocals, Value.category]; done) | rfl
theorem pn_com_example_strict_mapper_strictmapper_query_TokenIsSymbolPinLaw : plainName "com/example/strict_mapper/strictmapper/query/TokenIsSymbolPinLaw" = true := by first | (simp [plainName, overriddenIn]; done) | decide +kernel
theorem pd_kof : parseMethodDescriptor "(I)Lcom/example/strict_mapper/strictmapper/query/JpqlLexer$Kind;" = some ⟨[.int], some (.object "com/example/strict_mapper/strictmapper/query/JpqlLexer$Kind")⟩ := by decide +kernel
set_option maxRecDepth 65536 in
set_option maxHeartbeats 4000000 in
theorem ct_kof {a0 : Array Value} {Z : State} (hw : ∀ d ∈ tables_1, d.before a0 Z = true) (l : Launch) (nar kn : Bool) (hnr : nar = false) (h0 : Heap) (i : Int32) (ks : List Addr) (Ks : Kinds Z ks) :
    Ct l Z EL1 (⟨"com/example/strict_mapper/strictmapper/query/TokenIsSymbolPinLaw", "kindOf", "(I)Lcom/example/strict_mapper/strictmapper/query/JpqlLexer$Kind;"⟩ : MethodName) method_2_code 1 (Option.some (Jvm.ClassFile.FieldType.object "com/example/strict_mapper/strictmapper/query/JpqlLexer$Kind")) ({ frames := 0, cells := 0, slots := 0, locals := 0 } : Room) #[.int i] h0 [] nar kn (fun v h sn => v = some (.ref (kd ks i)) ∧ sn = [] ∧ h = h0) := by
  refine Ct.intro pn_com_example_strict_mapper_strictmapper_query_TokenIsSymbolPinLaw (ew hw) (ef_kof i) ?_
  intro x hl hn0 hkn hsf hh H0
  have hnar : x.nar = false := hn0.trans hnr
  have H0 : Hr x b_kof Z EL1 0 0 h0 [] 0 #[.val (.int i)] [] := H0
  obtain ⟨k0, k1, k2, k3, k4, k5, k6⟩ := Ks
  have H1 : Hr x b_kof Z EL1 0 0 h0 [] 1 #[.val (.int i)] [.int i] := H0.iloadN d_kof_0
  by_cases q0 : i = 0
  · have e : kd ks i = ks.getD 0 0 := by simp [kd, q0]
    have H2 : Hr x b_kof Z EL1 0 0 h0 [] 4 #[.val (.int i)] [] := H1.ifF d_kof_1 (XT.i0_ne_f q0)
    have H3 : Hr x b_kof Z EL1 0 0 h0 [] 7 #[.val (.int i)] [.ref (ks.getD 0 0)] := H2.getS (w5 hw) (k0.ext H2.old) d_kof_4
    exact H3.finA d_kof_7 ⟨by rw [e], rfl, rfl⟩ sub0
  · have e0 : ¬ i = 0 := q0
    have H4 : Hr x b_kof Z EL1 0 0 h0 [] 8 #[.val (.int i)] [] := H1.ifT d_kof_1 (XT.i0_ne_t q0)
    have H5 : Hr x b_kof Z EL1 0 0 h0 [] 9 #[.val (.int i)] [.int i] := H4.iloadN d_kof_8
    have H6 : Hr x b_kof Z EL1 0 0 h0 [] 10 #[.val (.int i)] [.int (1 : Int32), .int i] := H5.iconst d_kof_9
    by_cases q1 : i = 1
    · have e : kd ks i = ks.getD 1 0 := by simp [kd, q0, q1]
      have H7 : Hr x b_kof Z EL1 0 0 h0 [] 13 #[.val (.int i)] [] := H6.icmpF d_kof_10 (XT.ii_ne_f q1)
      have H8 : Hr x b_kof Z EL1 0 0 h0 [] 16 #[.val (.int i)] [.ref (ks.getD 1 0)] := H7.getS (w82 hw) (k1.ext H7.old) d_kof_13
      exact H8.finA d_kof_16 ⟨by rw [e], rfl, rfl⟩ sub0
    · have e1 : ¬ i = 1 := q1
      have H9 : Hr x b_kof Z EL1 0 0 h0 [] 17 #[.val (.int i)] [] := H6.icmpT d_kof_10 (XT.ii_ne_t q1)
      have H10 : Hr x b_kof Z EL1 0 0 h0 [] 18 #[.val (.int i)] [.int i] := H9.iloadN d_kof_17
      have H11 : Hr x b_kof Z EL1 0 0 h0 [] 19 #[.val (.int i)] [.int (2 : Int32), .int i] := H10.iconst d_kof_18
      by_cases q2 : i = 2
      · have e : kd ks i = ks.getD 2 0 := by simp [kd, q0, q1, q2]
        have H12 : Hr x b_kof Z EL1 0 0 h0 [] 22 #[.val (.int i)] [] := H11.icmpF d_kof_19 (XT.ii_ne_f q2)
        have H13 : Hr x b_kof Z EL1 0 0 h0 [] 25 #[.val (.int i)] [.ref (ks.getD 2 0)] := H12.getS (w86 hw) (k2.ext H12.old) d_kof_22
        exact H13.finA d_kof_25 ⟨by rw [e], rfl, rfl⟩ sub0
      · have e2 : ¬ i = 2 := q2
        have H14 : Hr x b_kof Z EL1 0 0 h0 [] 26 #[.val (.int i)] [] := H11.icmpT d_kof_19 (XT.ii_ne_t q2)
        have H15 : Hr x b_kof Z EL1 0 0 h0 [] 27 #[.val (.int i)] [.int i] := H14.iloadN d_kof_26
        have H16 : Hr x b_kof Z EL1 0 0 h0 [] 28 #[.val (.int i)] [.int (3 : Int32), .int i] := H15.iconst d_kof_27
        by_cases q3 : i = 3
        · have e : kd ks i = ks.getD 3 0 := by simp [kd, q0, q1, q2, q3]
          have H17 : Hr x b_kof Z EL1 0 0 h0 [] 31 #[.val (.int i)] [] := H16.icmpF d_kof_28 (XT.ii_ne_f q3)
          have H18 : Hr x b_kof Z EL1 0 0 h0 [] 34 #[.val (.int i)] [.ref (ks.getD 3 0)] := H17.getS (w69 hw) (k3.ext H17.old) d_kof_31
          exact H18.finA d_kof_34 ⟨by rw [e], rfl, rfl⟩ sub0
        · have e3 : ¬ i = 3 := q3
          have H19 : Hr x b_kof Z EL1 0 0 h0 [] 35 #[.val (.int i)] [] := H16.icmpT d_kof_28 (XT.ii_ne_t q3)
          have H20 : Hr x b_kof Z EL1 0 0 h0 [] 36 #[.val (.int i)] [.int i] := H19.iloadN d_kof_35
          have H21 : Hr x b_kof Z EL1 0 0 h0 [] 37 #[.val (.int i)] [.int (4 : Int32), .int i] := H20.iconst d_kof_36
          by_cases q4 : i = 4
          · have e : kd ks i = ks.getD 4 0 := by simp [kd, q0, q1, q2, q3, q4]
            have H22 : Hr x b_kof Z EL1 0 0 h0 [] 40 #[.val (.int i)] [] := H21.icmpF d_kof_37 (XT.ii_ne_f q4)
            have H23 : Hr x b_kof Z EL1 0 0 h0 [] 43 #[.val (.int i)] [.ref (ks.getD 4 0)] := H22.getS (w88 hw) (k4.ext H22.old) d_kof_40
            exact H23.finA d_kof_43 ⟨by rw [e], rfl, rfl⟩ sub0
          · have e4 : ¬ i = 4 := q4
            have H24 : Hr x b_kof Z EL1 0 0 h0 [] 44 #[.val (.int i)] [] := H21.icmpT d_kof_37 (XT.ii_ne_t q4)
            have H25 : Hr x b_kof Z EL1 0 0 h0 [] 45 #[.val (.int i)] [.int i] := H24.iloadN d_kof_44
            have H26 : Hr x b_kof Z EL1 0 0 h0 [] 46 #[.val (.int i)] [.int (5 : Int32), .int i] := H25.iconst d_kof_45
            by_cases q5 : i = 5
            · have e : kd ks i = ks.getD 5 0 := by simp [kd, q0, q1, q2, q3, q4, q5]
              have H27 : Hr x b_kof Z EL1 0 0 h0 [] 49 #[.val (.int i)] [] := H26.icmpF d_kof_46 (XT.ii_ne_f q5)
              have H28 : Hr x b_kof Z EL1 0 0 h0 [] 52 #[.val (.int i)] [.ref (ks.getD 5 0)] := H27.getS (w71 hw) (k5.ext H27.old) d_kof_49
              exact H28.finA d_kof_52 ⟨by rw [e], rfl, rfl⟩ sub0
            · have e5 : ¬ i = 5 := q5
              have H29 : Hr x b_kof Z EL1 0 0 h0 [] 53 #[.val (.int i)] [] := H26.icmpT d_kof_46 (XT.ii_ne_t q5)
              have H30 : Hr x b_kof Z EL1 0 0 h0 [] 56 #[.val (.int i)] [.ref (ks.getD 6 0)] := H29.getS (w84 hw) (k6.ext H29.old) d_kof_53
              have e : kd ks i = ks.getD 6 0 := by simp [kd, q0, q1, q2, q3, q4, q5]
              exact H30.finA d_kof_56 ⟨by rw [e], rfl, rfl⟩ sub0
/-- what str(len, c0, c1) spells -/
def sOf (n c0 c1 : Int32) : List Int32 := if n = 0 then [] else if n = 1 then [c0] else [c0, c1]
theorem nar_c {c : Int32} (h0 : ¬ c < 0) (h1 : ¬ 255 < c) : nar .char c = c := by
  have q : c &&& 255 = c := by
    rw [← Int32.toInt_inj, c_mask c 255 8 (by omega) (by decide)]
    rw [Int32.lt_iff_toInt_lt] at h0 h1
    have e1 : (0 : Int32).toInt = 0 := by decide
    have e2 : (255 : Int32).toInt = 255 := by decide
    omega
  show c.toUInt32.toUInt16.toUInt32.toInt32 = c
  have := i2c_mask c
  rw [q] at this; exact this
def b_str : Bx := (({ frames := 4, cells := 6, slots := 16, locals := 66 } : Room), (⟨"com/example/strict_mapper/strictmapper/query/TokenIsSymbolPinLaw", "str", "(ICC)Ljava/lang/String;"⟩ : MethodName), method_3_code, 3, (Option.some (Jvm.ClassFile.FieldType.object "java/lang/String")))
theorem ef_str (n c0 c1 : Int32) (m : MethodId) : entryFrame m #[.int n, .int c0, .int c1] 3 = mkF m 0 #[.val (.int n), .val (.int c0), .val (.int c1)] [] := by first | (simp [entryFrame, mkF, argsToLocals, Value.category]; done) | rfl
theorem pd_str : parseMethodDescriptor "(ICC)Ljava/lang/String;" = some ⟨[.int, .char, .char], some (.object "java/lang/String")⟩ := by decide +kernel
set_option maxRecDepth 65536 in
set_option maxHeartbeats 4000000 in
theorem ct_str {a0 : Array Value} {Z : State} (hw : ∀ d ∈ tables_1, d.before a0 Z = true) (l : Launch) (nar kn : Bool) (hnr : nar = false) (h0 : Heap) (n c0 c1 : Int32) (p0 : ¬ c0 < 0 ∧ ¬ 255 < c0) (p1 : ¬ c1 < 0 ∧ ¬ 255 < c1) (cz : Int32) (O : Sta Z Z.heap "java/lang/String" "COMPACT_STRINGS" "Z" (.int cz)) (hcz : ¬ cz = 0) :
    Ct l Z EL1 (⟨"com/example/strict_mapper/strictmapper/query/TokenIsSymbolPinLaw", "str", "(ICC)Ljava/lang/String;"⟩ : MethodName) method_3_code 3 (Option.some (Jvm.ClassFile.FieldType.object "java/lang/String")) ({ frames := 4, cells := 6, slots := 16, locals := 66 } : Room) #[.int n, .int c0, .int c1] h0 [] nar kn (fun v h sn => ∃ a t, v = some (.ref a) ∧ sn = [] ∧ Str Z h a t ((sOf n c0 c1).map b8)) := by
  refine Ct.intro pn_com_example_strict_mapper_strictmapper_query_TokenIsSymbolPinLaw (ew hw) (ef_str n c0 c1) ?_
  intro x hl hn0 hkn hsf hh H0
  have hnar : x.nar = false := hn0.trans hnr
  have H0 : Hr x b_str Z EL1 0 0 h0 [] 0 #[.val (.int n), .val (.int c0), .val (.int c1)] [] := H0
  have H1 : Hr x b_str Z EL1 0 0 h0 [] 1 #[.val (.int n), .val (.int c0), .val (.int c1)] [.int n] := H0.iloadN d_str_0
  by_cases q0 : n = 0
  · have e : sOf n c0 c1 = [] := by simp [sOf, q0]
    have H2 : Hr x b_str Z EL1 0 0 h0 [] 4 #[.val (.int n), .val (.int c0), .val (.int c1)] [] := H1.ifF d_str_1 (XT.i0_ne_f q0)
    obtain ⟨h1, E1, ⟨X1, D1, U1⟩, H3⟩ := H2.new (w11 hw) (w12 hw) (w13 hw) d_str_4 (by first | decide | (simp [b_str, Bx.R]; done) | (simp [b_str, Bx.R]; omega)) (by first | decide | (simp [b_str, Bx.R]; done) | (simp [b_str, Bx.R]; omega))
    obtain ⟨s, g_s⟩ : ∃ z, z = h0.size := ⟨_, rfl⟩
    rw [← g_s] at X1 D1 U1 H3
    have H3 : Hr x b_str Z EL1 1 4 h1 [s] 7 #[.val (.int n), .val (.int c0), .val (.int c1)] [.ref s] := H3
    have H4 : Hr x b_str Z EL1 1 4 h1 [s] 8 #[.val (.int n), .val (.int c0), .val (.int c1)] [.ref s, .ref s] := H3.dup d_str_7
    have H5 : Hr x b_str Z EL1 1 4 h1 [s] 9 #[.val (.int n), .val (.int c0), .val (.int c1)] [.int (0 : Int32), .ref s, .ref s] := H4.iconst d_str_8
    obtain ⟨h2, E2, F2, H6⟩ := H5.newarray (aty := .char) (cap := 0) (w14 hw) d_str_9 (by decide) (by decide) (by decide) (by first | decide | (simp [b_str, Bx.R]; done) | (simp [b_str, Bx.R]; omega)) (by first | decide | (simp [b_str, Bx.R]; done) | (simp [b_str, Bx.R]; omega))
    obtain ⟨a, g_a⟩ : ∃ z, z = h1.size := ⟨_, rfl⟩
    rw [← g_a] at F2 H6
    have F2 : Ar Z h2 a .char (List.replicate 0 (.int 0)) := F2
    have H6 : Hr x b_str Z EL1 2 4 h2 [a, s] 11 #[.val (.int n), .val (.int c0), .val (.int c1)] [.ref a, .ref s, .ref s] := H6
    have hsa : @Ne Nat s a := by have := exa_lt X1; omega
    have Fc : Fld Z h1 s "java/lang/String" "coder" "B" (.int 0) := D1 (Or.inr (w38 hw)) (ty := .byte) (by decide)
    have Fv : Fld Z h1 s "java/lang/String" "value" "[B" .null := D1 (Or.inr (w40 hw)) (ty := .array .byte) (by decide)
    obtain ⟨_, hE, _, ⟨rfl, rfl, t, Fs⟩, KE, H7⟩ := H6.callI (argsL := [.ref a]) (rest := [.ref s]) (Wr := 1) (a := s) (ct_sini1 hw x.l x.nar x.kn hnar h2 s a [] (X1.ext E2) (Fc.ext E2) (Fv.ext E2) F2 (by simp) hcs0 cz O hcz) (sub1 (by simp)) (w15 hw) (w16 hw) (w13 hw) (w17 hw) d_str_11 pd_sini1 rfl (hf := by first | decide | (simp [b_str, Bx.R]; done) | (simp [b_str, Bx.R]; omega)) (hl := by first | decide | (simp [b_str, Bx.R]; done) | (simp [b_str, Bx.R]; omega)) (hc := by first | decide | (simp [b_str, Bx.R]; done) | (simp [b_str, Bx.R]; omega)) (hs := by first | decide | (simp [b_str, Bx.R]; done) | (simp [b_str, Bx.R]; omega))
    have H7 : Hr x b_str Z EL1 6 12 hE [a, s] 14 #[.val (.int n), .val (.int c0), .val (.int c1)] [.ref s] := H7
    exact H7.finA d_str_14 ⟨s, t, rfl, rfl, by rw [e]; exact Fs⟩ sub0
  · have hq0 := q0
    have H8 : Hr x b_str Z EL1 0 0 h0 [] 15 #[.val (.int n), .val (.int c0), .val (.int c1)] [] := H1.ifT d_str_1 (XT.i0_ne_t q0)
    have H9 : Hr x b_str Z EL1 0 0 h0 [] 16 #[.val (.int n), .val (.int c0), .val (.int c1)] [.int n] := H8.iloadN d_str_15
    have H10 : Hr x b_str Z EL1 0 0 h0 [] 17 #[.val (.int n), .val (.int c0), .val (.int c1)] [.int (1 : Int32), .int n] := H9.iconst d_str_16
    by_cases q1 : n = 1
    · have e : sOf n c0 c1 = [c0] := by simp [sOf, q1]
      have H11 : Hr x b_str Z EL1 0 0 h0 [] 20 #[.val (.int n), .val (.int c0), .val (.int c1)] [] := H10.icmpF d_str_17 (XT.ii_ne_f q1)
      obtain ⟨h1, E1, ⟨X1, D1, U1⟩, H12⟩ := H11.new (w11 hw) (w12 hw) (w13 hw) d_str_20 (by first | decide | (simp [b_str, Bx.R]; done) | (simp [b_str, Bx.R]; omega)) (by first | decide | (simp [b_str, Bx.R]; done) | (simp [b_str, Bx.R]; omega))
      obtain ⟨s, g_s⟩ : ∃ z, z = h0.size := ⟨_, rfl⟩
      rw [← g_s] at X1 D1 U1 H12
      have H12 : Hr x b_str Z EL1 1 4 h1 [s] 23 #[.val (.int n), .val (.int c0), .val (.int c1)] [.ref s] := H12
      have H13 : Hr x b_str Z EL1 1 4 h1 [s] 24 #[.val (.int n), .val (.int c0), .val (.int c1)] [.ref s, .ref s] := H12.dup d_str_23
      have H14 : Hr x b_str Z EL1 1 4 h1 [s] 25 #[.val (.int n), .val (.int c0), .val (.int c1)] [.int (1 : Int32), .ref s, .ref s] := H13.iconst d_str_24
      obtain ⟨h2, E2, F2, H15⟩ := H14.newarray (aty := .char) (cap := 1) (w14 hw) d_str_25 (by decide) (by decide) (by decide) (by first | decide | (simp [b_str, Bx.R]; done) | (simp [b_str, Bx.R]; omega)) (by first | decide | (simp [b_str, Bx.R]; done) | (simp [b_str, Bx.R]; omega))
      obtain ⟨a, g_a⟩ : ∃ z, z = h1.size := ⟨_, rfl⟩
      rw [← g_a] at F2 H15
      have F2 : Ar Z h2 a .char (List.replicate 1 (.int 0)) := F2
      have H15 : Hr x b_str Z EL1 2 5 h2 [a, s] 27 #[.val (.int n), .val (.int c0), .val (.int c1)] [.ref a, .ref s, .ref s] := H15
      have H16 : Hr x b_str Z EL1 2 5 h2 [a, s] 28 #[.val (.int n), .val (.int c0), .val (.int c1)] [.ref a, .ref a, .ref s, .ref s] := H15.dup d_str_27
      have H17 : Hr x b_str Z EL1 2 5 h2 [a, s] 29 #[.val (.int n), .val (.int c0), .val (.int c1)] [.int (0 : Int32), .ref a, .ref a, .ref s, .ref s] := H16.iconst d_str_28
      have H18 : Hr x b_str Z EL1 2 5 h2 [a, s] 30 #[.val (.int n), .val (.int c0), .val (.int c1)] [.int c0, .int (0 : Int32), .ref a, .ref a, .ref s, .ref s] := H17.iloadN d_str_29
      obtain ⟨h3, W3, H19⟩ := H18.castore (by simp) F2 d_str_30 (i := 0) rfl (by simp) (hw := (nar_c p0.1 p0.2))
      have H19 : Hr x b_str Z EL1 2 5 h3 [a, s] 31 #[.val (.int n), .val (.int c0), .val (.int c1)] [.ref a, .ref s, .ref s] := H19
      have F3 : Ar Z h3 a .char [.int c0] := F2.set W3
      have hsa : @Ne Nat s a := by have := exa_lt X1; omega
      have Fc : Fld Z h1 s "java/lang/String" "coder" "B" (.int 0) := D1 (Or.inr (w38 hw)) (ty := .byte) (by decide)
      have Fv : Fld Z h1 s "java/lang/String" "value" "[B" .null := D1 (Or.inr (w40 hw)) (ty := .array .byte) (by decide)
      obtain ⟨_, hE, _, ⟨rfl, rfl, t, Fs⟩, KE, H20⟩ := H19.callI (argsL := [.ref a]) (rest := [.ref s]) (Wr := 1) (a := s) (ct_sini1 hw x.l x.nar x.kn hnar h3 s a [c0] ((X1.ext E2).wr W3) ((Fc.ext E2).other W3 (Or.inl hsa)) ((Fv.ext E2).other W3 (Or.inl hsa)) F3 (by simp) (hcsC p0 hcs0) cz O hcz) (sub1 (by simp)) (w15 hw) (w16 hw) (w13 hw) (w17 hw) d_str_31 pd_sini1 rfl (hf := by first | decide | (simp [b_str, Bx.R]; done) | (simp [b_str, Bx.R]; omega)) (hl := by first | decide | (simp [b_str, Bx.R]; done) | (simp [b_str, Bx.R]; omega)) (hc := by first | decide | (simp [b_str, Bx.R]; done) | (simp [b_str, Bx.R]; omega)) (hs := by first | decide | (simp [b_str, Bx.R]; done) | (simp [b_str, Bx.R]; omega))
      have H20 : Hr x b_str Z EL1 6 14 hE [a, s] 34 #[.val (.int n), .val (.int c0), .val (.int c1)] [.ref s] := H20
      exact H20.finA d_str_34 ⟨s, t, rfl, rfl, by rw [e]; exact Fs⟩ sub0
    · have e : sOf n c0 c1 = [c0, c1] := by simp [sOf, q0, q1]
      have H21 : Hr x b_str Z EL1 0 0 h0 [] 35 #[.val (.int n), .val (.int c0), .val (.int c1)] [] := H10.icmpT d_str_17 (XT.ii_ne_t q1)
      obtain ⟨h1, E1, ⟨X1, D1, U1⟩, H22⟩ := H21.new (w11 hw) (w12 hw) (w13 hw) d_str_35 (by first | decide | (simp [b_str, Bx.R]; done) | (simp [b_str, Bx.R]; omega)) (by first | decide | (simp [b_str, Bx.R]; done) | (simp [b_str, Bx.R]; omega))
      obtain ⟨s, g_s⟩ : ∃ z, z = h0.size := ⟨_, rfl⟩
      rw [← g_s] at X1 D1 U1 H22
      have H22 : Hr x b_str Z EL1 1 4 h1 [s] 38 #[.val (.int n), .val (.int c0), .val (.int c1)] [.ref s] := H22
      have H23 : Hr x b_str Z EL1 1 4 h1 [s] 39 #[.val (.int n), .val (.int c0), .val (.int c1)] [.ref s, .ref s] := H22.dup d_str_38
      have H24 : Hr x b_str Z EL1 1 4 h1 [s] 40 #[.val (.int n), .val (.int c0), .val (.int c1)] [.int (2 : Int32), .ref s, .ref s] := H23.iconst d_str_39
      obtain ⟨h2, E2, F2, H25⟩ := H24.newarray (aty := .char) (cap := 2) (w14 hw) d_str_40 (by decide) (by decide) (by decide) (by first | decide | (simp [b_str, Bx.R]; done) | (simp [b_str, Bx.R]; omega)) (by first | decide | (simp [b_str, Bx.R]; done) | (simp [b_str, Bx.R]; omega))
      obtain ⟨a, g_a⟩ : ∃ z, z = h1.size := ⟨_, rfl⟩
      rw [← g_a] at F2 H25
      have F2 : Ar Z h2 a .char (List.replicate 2 (.int 0)) := F2
      have H25 : Hr x b_str Z EL1 2 6 h2 [a, s] 42 #[.val (.int n), .val (.int c0), .val (.int c1)] [.ref a, .ref s, .ref s] := H25
      have H26 : Hr x b_str Z EL1 2 6 h2 [a, s] 43 #[.val (.int n), .val (.int c0), .val (.int c1)] [.ref a, .ref a, .ref s, .ref s] := H25.dup d_str_42
      have H27 : Hr x b_str Z EL1 2 6 h2 [a, s] 44 #[.val (.int n), .val (.int c0), .val (.int c1)] [.int (0 : Int32), .ref a, .ref a, .ref s, .ref s] := H26.iconst d_str_43
      have H28 : Hr x b_str Z EL1 2 6 h2 [a, s] 45 #[.val (.int n), .val (.int c0), .val (.int c1)] [.int c0, .int (0 : Int32), .ref a, .ref a, .ref s, .ref s] := H27.iloadN d_str_44
      obtain ⟨h3, W3, H29⟩ := H28.castore (by simp) F2 d_str_45 (i := 0) rfl (by simp) (hw := (nar_c p0.1 p0.2))
      have H29 : Hr x b_str Z EL1 2 6 h3 [a, s] 46 #[.val (.int n), .val (.int c0), .val (.int c1)] [.ref a, .ref s, .ref s] := H29
      have F3 : Ar Z h3 a .char [.int c0, .int 0] := F2.set W3
      have H30 : Hr x b_str Z EL1 2 6 h3 [a, s] 47 #[.val (.int n), .val (.int c0), .val (.int c1)] [.ref a, .ref a, .ref s, .ref s] := H29.dup d_str_46
      have H31 : Hr x b_str Z EL1 2 6 h3 [a, s] 48 #[.val (.int n), .val (.int c0), .val (.int c1)] [.int (1 : Int32), .ref a, .ref a, .ref s, .ref s] := H30.iconst d_str_47
      have H32 : Hr x b_str Z EL1 2 6 h3 [a, s] 49 #[.val (.int n), .val (.int c0), .val (.int c1)] [.int c1, .int (1 : Int32), .ref a, .ref a, .ref s, .ref s] := H31.iloadN d_str_48
      obtain ⟨h4, W4, H33⟩ := H32.castore (by simp) F3 d_str_49 (i := 1) rfl (by simp) (hw := (nar_c p1.1 p1.2))
      have H33 : Hr x b_str Z EL1 2 6 h4 [a, s] 50 #[.val (.int n), .val (.int c0), .val (.int c1)] [.ref a, .ref s, .ref s] := H33
      have F4 : Ar Z h4 a .char [.int c0, .int c1] := F3.set W4
      have hsa : @Ne Nat s a := by have := exa_lt X1; omega
      have Fc : Fld Z h1 s "java/lang/String" "coder" "B" (.int 0) := D1 (Or.inr (w38 hw)) (ty := .byte) (by decide)
      have Fv : Fld Z h1 s "java/lang/String" "value" "[B" .null := D1 (Or.inr (w40 hw)) (ty := .array .byte) (by decide)
      obtain ⟨_, hE, _, ⟨rfl, rfl, t, Fs⟩, KE, H34⟩ := H33.callI (argsL := [.ref a]) (rest := [.ref s]) (Wr := 1) (a := s) (ct_sini1 hw x.l x.nar x.kn hnar h4 s a [c0, c1] (((X1.ext E2).wr W3).wr W4) (((Fc.ext E2).other W3 (Or.inl hsa)).other W4 (Or.inl hsa)) (((Fv.ext E2).other W3 (Or.inl hsa)).other W4 (Or.inl hsa)) F4 (by simp) (hcsC p0 (hcsC p1 hcs0)) cz O hcz) (sub1 (by simp)) (w15 hw) (w16 hw) (w13 hw) (w17 hw) d_str_50 pd_sini1 rfl (hf := by first | decide | (simp [b_str, Bx.R]; done) | (simp [b_str, Bx.R]; omega)) (hl := by first | decide | (simp [b_str, Bx.R]; done) | (simp [b_str, Bx.R]; omega)) (hc := by first | decide | (simp [b_str, Bx.R]; done) | (simp [b_str, Bx.R]; omega)) (hs := by first | decide | (simp [b_str, Bx.R]; done) | (simp [b_str, Bx.R]; omega))
      have H34 : Hr x b_str Z EL1 6 16 hE [a, s] 53 #[.val (.int n), .val (.int c0), .val (.int c1)] [.ref s] := H34
      exact H34.finA d_str_53 ⟨s, t, rfl, rfl, by rw [e]; exact Fs⟩ sub0
def b_rini : Bx := (({ frames := 1, cells := 0, slots := 0, locals := 12 } : Room), (⟨"java/lang/Record", "<init>", "()V"⟩ : MethodName), jdk_30_method_1_code, 1, (Option.none : Option Jvm.ClassFile.FieldType))
theorem ef_rini (s : Addr) (m : MethodId) : entryFrame m #[.ref s] 1 = mkF m 0 #[.val (.ref s)] [] := by first | (simp [entryFrame, mkF, argsToLocals, Value.category]; done) | rfl
theorem pn_java_lang_Record : plainName "java/lang/Record" = true := by first | (simp [plainName, overriddenIn]; done) | decide +kernel
theorem pd_rini : parseMethodDescriptor "()V" = some ⟨[], none⟩ := by decide +kernel
set_option maxRecDepth 65536 in
set_option maxHeartbeats 4000000 in
theorem ct_rini {a0 : Array Value} {Z : State} (hw : ∀ d ∈ tables_1, d.before a0 Z = true) (l : Launch) (nar kn : Bool) (hnr : nar = false) (h0 : Heap) (s : Addr) :
    Ct l Z EL1 (⟨"java/lang/Record", "<init>", "()V"⟩ : MethodName) jdk_30_method_1_code 1 (Option.none : Option Jvm.ClassFile.FieldType) ({ frames := 1, cells := 0, slots := 0, locals := 12 } : Room) #[.ref s] h0 [] nar kn (fun v h sn => v = none ∧ sn = [] ∧ h = h0) := by
  refine Ct.intro pn_java_lang_Record (ew hw) (ef_rini s) ?_
  intro x hl hn0 hkn hsf hh H0
  have hnar : x.nar = false := hn0.trans hnr
  have H0 : Hr x b_rini Z EL1 0 0 h0 [] 0 #[.val (.ref s)] [] := H0
  have H1 : Hr x b_rini Z EL1 0 0 h0 [] 1 #[.val (.ref s)] [.ref s] := H0.aloadN d_rini_0
  have H2 : Hr x b_rini Z EL1 0 0 h0 [] 4 #[.val (.ref s)] [] := H1.initO (Wr := 0) (w55 hw) (w23 hw) (w24 hw) d_rini_1 (hf := by first | decide | (simp [b_rini, Bx.R]; done) | (simp [b_rini, Bx.R]; omega)) (hl := by first | decide | (simp [b_rini, Bx.R]; done) | (simp [b_rini, Bx.R]; omega))
  exact H2.finN d_rini_4 rfl (by decide) (by decide) sub0 ⟨rfl, rfl, rfl⟩
def b_tini : Bx := (({ frames := 2, cells := 0, slots := 0, locals := 24 } : Room), (⟨"com/example/strict_mapper/strictmapper/query/JpqlLexer$Token", "<init>", "(Lcom/example/strict_mapper/strictmapper/query/JpqlLexer$Kind;Ljava/lang/String;I)V"⟩ : MethodName), prog_21_method_1_code, 4, (Option.none : Option Jvm.ClassFile.FieldType))
theorem ef_tini (s k t : Addr) (i : Int32) (m : MethodId) : entryFrame m #[.ref s, .ref k, .ref t, .int i] 4 = mkF m 0 #[.val (.ref s), .val (.ref k), .val (.ref t), .val (.int i)] [] := by first | (simp [entryFrame, mkF, argsToLocals, Value.category]; done) | rfl
theorem pn_com_example_strict_mapper_strictmapper_query_JpqlLexer_Token : plainName "com/example/strict_mapper/strictmapper/query/JpqlLexer$Token" = true := by first | (simp [plainName, overriddenIn]; done) | decide +kernel
theorem pd_tini : parseMethodDescriptor "(Lcom/example/strict_mapper/strictmapper/query/JpqlLexer$Kind;Ljava/lang/String;I)V" = some ⟨[(.object "com/example/strict_mapper/strictmapper/query/JpqlLexer$Kind"), (.object "java/lang/String"), .int], none⟩ := by decide +kernel
set_option maxRecDepth 65536 in
set_option maxHeartbeats 4000000 in
theorem ct_tini {a0 : Array Value} {Z : State} (hw : ∀ d ∈ tables_1, d.before a0 Z = true) (l : Launch) (nar kn : Bool) (hnr : nar = false) (h0 : Heap) (s k t : Addr) (i : Int32) (Es : Exa Z h0 s "com/example/strict_mapper/strictmapper/query/JpqlLexer$Token") (F0 : Fld Z h0 s "com/example/strict_mapper/strictmapper/query/JpqlLexer$Token" "kind" "Lcom/example/strict_mapper/strictmapper/query/JpqlLexer$Kind;" (.null)) (F1 : Fld Z h0 s "com/example/strict_mapper/strictmapper/query/JpqlLexer$Token" "text" "Ljava/lang/String;" (.null)) (F2 : Fld Z h0 s "com/example/strict_mapper/strictmapper/query/JpqlLexer$Token" "index" "I" (.int 0)) :
    Ct l Z EL1 (⟨"com/example/strict_mapper/strictmapper/query/JpqlLexer$Token", "<init>", "(Lcom/example/strict_mapper/strictmapper/query/JpqlLexer$Kind;Ljava/lang/String;I)V"⟩ : MethodName) prog_21_method_1_code 4 (Option.none : Option Jvm.ClassFile.FieldType) ({ frames := 2, cells := 0, slots := 0, locals := 24 } : Room) #[.ref s, .ref k, .ref t, .int i] h0 [s] nar kn (fun v h sn => v = none ∧ sn = [] ∧ Exa Z h s "com/example/strict_mapper/strictmapper/query/JpqlLexer$Token" ∧ Fld Z h s "com/example/strict_mapper/strictmapper/query/JpqlLexer$Token" "kind" "Lcom/example/strict_mapper/strictmapper/query/JpqlLexer$Kind;" (.ref k) ∧ Fld Z h s "com/example/strict_mapper/strictmapper/query/JpqlLexer$Token" "text" "Ljava/lang/String;" (.ref t) ∧ Fld Z h s "com/example/strict_mapper/strictmapper/query/JpqlLexer$Token" "index" "I" (.int i)) := by
  refine Ct.intro pn_com_example_strict_mapper_strictmapper_query_JpqlLexer_Token (ew hw) (ef_tini s k t i) ?_
  intro x hl hn0 hkn hsf hh H0
  have hnar : x.nar = false := hn0.trans hnr
  have H0 : Hr x b_tini Z EL1 0 0 h0 [s] 0 #[.val (.ref s), .val (.ref k), .val (.ref t), .val (.int i)] [] := H0
  have H1 : Hr x b_tini Z EL1 0 0 h0 [s] 1 #[.val (.ref s), .val (.ref k), .val (.ref t), .val (.int i)] [.ref s] := H0.aloadN d_tini_0
  obtain ⟨_, h1, _, ⟨rfl, rfl, e1⟩, K1, H2⟩ := H1.callI (argsL := []) (rest := []) (Wr := 0) (a := s) (ct_rini hw x.l x.nar x.kn hnar h0 s) sub0 (w50 hw) (w51 hw) (w53 hw) (w54 hw) d_tini_1 pd_rini rfl (hf := by first | decide | (simp [b_tini, Bx.R]; done) | (simp [b_tini, Bx.R]; omega)) (hl := by first | decide | (simp [b_tini, Bx.R]; done) | (simp [b_tini, Bx.R]; omega)) (hc := by first | decide | (simp [b_tini, Bx.R]; done) | (simp [b_tini, Bx.R]; omega)) (hs := by first | decide | (simp [b_tini, Bx.R]; done) | (simp [b_tini, Bx.R]; omega))
  rw [e1] at H2
  have H2 : Hr x b_tini Z EL1 0 0 h0 [s] 4 #[.val (.ref s), .val (.ref k), .val (.ref t), .val (.int i)] [] := H2
  have n01 := slot_ne (a0 := a0) (C := "com/example/strict_mapper/strictmapper/query/JpqlLexer$Token") (n := "kind") (n' := "text") (Or.inr (w57 hw)) (Or.inr (w59 hw)) (by decide) (t := .object "com/example/strict_mapper/strictmapper/query/JpqlLexer$Kind") (t' := .object "java/lang/String") (by decide) (by decide)
  have n02 := slot_ne (a0 := a0) (C := "com/example/strict_mapper/strictmapper/query/JpqlLexer$Token") (n := "kind") (n' := "index") (Or.inr (w57 hw)) (Or.inr (w61 hw)) (by decide) (t := .object "com/example/strict_mapper/strictmapper/query/JpqlLexer$Kind") (t' := .int) (by decide) (by decide)
  have n12 := slot_ne (a0 := a0) (C := "com/example/strict_mapper/strictmapper/query/JpqlLexer$Token") (n := "text") (n' := "index") (Or.inr (w59 hw)) (Or.inr (w61 hw)) (by decide) (t := .object "java/lang/String") (t' := .int) (by decide) (by decide)
  have H3 : Hr x b_tini Z EL1 0 0 h0 [s] 5 #[.val (.ref s), .val (.ref k), .val (.ref t), .val (.int i)] [.ref s] := H2.aloadN d_tini_4
  have H4 : Hr x b_tini Z EL1 0 0 h0 [s] 6 #[.val (.ref s), .val (.ref k), .val (.ref t), .val (.int i)] [.ref k, .ref s] := H3.aloadN d_tini_5
  obtain ⟨h2, W2, H5⟩ := H4.putF (by simp) (w56 hw) F0 Es (Or.inr ⟨(w57 hw), rfl, rfl⟩) (w45 hw) d_tini_6 (ty := (.object "com/example/strict_mapper/strictmapper/query/JpqlLexer$Kind"))
  have H5 : Hr x b_tini Z EL1 0 0 h2 [s] 9 #[.val (.ref s), .val (.ref k), .val (.ref t), .val (.int i)] [] := H5
  have H6 : Hr x b_tini Z EL1 0 0 h2 [s] 10 #[.val (.ref s), .val (.ref k), .val (.ref t), .val (.int i)] [.ref s] := H5.aloadN d_tini_9
  have H7 : Hr x b_tini Z EL1 0 0 h2 [s] 11 #[.val (.ref s), .val (.ref k), .val (.ref t), .val (.int i)] [.ref t, .ref s] := H6.aloadN d_tini_10
  obtain ⟨h3, W3, H8⟩ := H7.putF (by simp) (w58 hw) (F1.other W2 (Or.inr (Ne.symm n01))) (Es.wr W2) (Or.inr ⟨(w59 hw), rfl, rfl⟩) (w45 hw) d_tini_11 (ty := (.object "java/lang/String"))
  have H8 : Hr x b_tini Z EL1 0 0 h3 [s] 14 #[.val (.ref s), .val (.ref k), .val (.ref t), .val (.int i)] [] := H8
  have H9 : Hr x b_tini Z EL1 0 0 h3 [s] 15 #[.val (.ref s), .val (.ref k), .val (.ref t), .val (.int i)] [.ref s] := H8.aloadN d_tini_14
  have H10 : Hr x b_tini Z EL1 0 0 h3 [s] 16 #[.val (.ref s), .val (.ref k), .val (.ref t), .val (.int i)] [.int i, .ref s] := H9.iloadN d_tini_15
  obtain ⟨h4, W4, H11⟩ := H10.putF (by simp) (w60 hw) ((F2.other W2 (Or.inr (Ne.symm n02))).other W3 (Or.inr (Ne.symm n12))) ((Es.wr W2).wr W3) (Or.inr ⟨(w61 hw), rfl, rfl⟩) (w45 hw) d_tini_16 (ty := .int)
  have H11 : Hr x b_tini Z EL1 0 0 h4 [s] 19 #[.val (.ref s), .val (.ref k), .val (.ref t), .val (.int i)] [] := H11
  exact H11.finN d_tini_19 rfl (by decide) (by decide) sub0 ⟨rfl, rfl, ((Es.wr W2).wr W3).wr W4, ((Fld.same W2 F0).other W3 (Or.inr n01)).other W4 (Or.inr n02), (Fld.same W3 (F1.other W2 (Or.inr (Ne.symm n01)))).other W4 (Or.inr n12), Fld.same W4 ((F2.other W2 (Or.inr (Ne.symm n02))).other W3 (Or.inr (Ne.symm n12)))⟩
def b_isym : Bx := (({ frames := 2, cells := 0, slots := 0, locals := 28 } : Room), (⟨"com/example/strict_mapper/strictmapper/query/JpqlLexer$Token", "isSymbol", "(Ljava/lang/String;)Z"⟩ : MethodName), prog_21_method_3_code, 2, (Option.some Jvm.ClassFile.FieldType.boolean))
theorem ef_isym (s c : Addr) (m : MethodId) : entryFrame m #[.ref s, .ref c] 2 = mkF m 0 #[.val (.ref s), .val (.ref c)] [] := by first | (simp [entryFrame, mkF, argsToLocals, Value.category]; done) | rfl
theorem pd_isym : parseMethodDescriptor "(Ljava/lang/String;)Z" = some ⟨[(.object "java/lang/String")], some .boolean⟩ := by decide +kernel
set_option maxRecDepth 65536 in
set_option maxHeartbeats 4000000 in
theorem ct_isym {a0 : Array Value} {Z : State} (hw : ∀ d ∈ tables_1, d.before a0 Z = true) (l : Launch) (nar kn : Bool) (hnr : nar = false) (h0 : Heap) (s k a t c u m : Addr) (bs ds : List Int32) (Fk : Fld Z h0 s "com/example/strict_mapper/strictmapper/query/JpqlLexer$Token" "kind" "Lcom/example/strict_mapper/strictmapper/query/JpqlLexer$Kind;" (.ref k)) (Ft : Fld Z h0 s "com/example/strict_mapper/strictmapper/query/JpqlLexer$Token" "text" "Ljava/lang/String;" (.ref a)) (Fa : Str Z h0 a t bs) (Fc : Str Z h0 c u ds) (Km : Sta Z Z.heap "com/example/strict_mapper/strictmapper/query/JpqlLexer$Kind" "SYMBOL" "Lcom/example/strict_mapper/strictmapper/query/JpqlLexer$Kind;" (.ref m)) (cz : Int32) (O : Sta Z Z.heap "java/lang/String" "COMPACT_STRINGS" "Z" (.int cz)) (hcz : ¬ cz = 0) :
    Ct l Z EL1 (⟨"com/example/strict_mapper/strictmapper/query/JpqlLexer$Token", "isSymbol", "(Ljava/lang/String;)Z"⟩ : MethodName) prog_21_method_3_code 2 (Option.some Jvm.ClassFile.FieldType.boolean) ({ frames := 2, cells := 0, slots := 0, locals := 28 } : Room) #[.ref s, .ref c] h0 [] nar kn (fun v h sn => v = some (.int (if k = m ∧ bs = ds then 1 else 0)) ∧ sn = [] ∧ h = h0) := by
  refine Ct.intro pn_com_example_strict_mapper_strictmapper_query_JpqlLexer_Token (ew hw) (ef_isym s c) ?_
  intro x hl hn0 hkn hsf hh H0
  have hnar : x.nar = false := hn0.trans hnr
  have H0 : Hr x b_isym Z EL1 0 0 h0 [] 0 #[.val (.ref s), .val (.ref c)] [] := H0
  have H1 : Hr x b_isym Z EL1 0 0 h0 [] 1 #[.val (.ref s), .val (.ref c)] [.ref s] := H0.aloadN d_isym_0
  have H2 : Hr x b_isym Z EL1 0 0 h0 [] 4 #[.val (.ref s), .val (.ref c)] [.ref k] := H1.getF (w56 hw) Fk d_isym_1
  have H3 : Hr x b_isym Z EL1 0 0 h0 [] 7 #[.val (.ref s), .val (.ref c)] [.ref m, .ref k] := H2.getS (w67 hw) (Km.ext H2.old) d_isym_4
  by_cases hk : k = m
  · have hk2 : XT.acmp .ne (.ref k) (.ref m) = false := by simp [XT.acmp, hk]
    have H4 : Hr x b_isym Z EL1 0 0 h0 [] 10 #[.val (.ref s), .val (.ref c)] [] := H3.acmpF d_isym_7 hk2
    have H5 : Hr x b_isym Z EL1 0 0 h0 [] 11 #[.val (.ref s), .val (.ref c)] [.ref s] := H4.aloadN d_isym_10
    have H6 : Hr x b_isym Z EL1 0 0 h0 [] 14 #[.val (.ref s), .val (.ref c)] [.ref a] := H5.getF (w58 hw) Ft d_isym_11
    have H7 : Hr x b_isym Z EL1 0 0 h0 [] 15 #[.val (.ref s), .val (.ref c)] [.ref c, .ref a] := H6.aloadN d_isym_14
    obtain ⟨_, h1, _, ⟨rfl, rfl, e1⟩, K1, H8⟩ := H7.callV (argsL := [.ref c]) (rest := []) (Wr := 0) (a := a) (ct_seq hw x.l x.nar x.kn hnar h0 a t c u bs ds Fa Fc cz O hcz) sub0 Fa.1 (w72 hw) (w73 hw) (w75 hw) (w75 hw) (w74 hw) (w13 hw) (w76 hw) d_isym_15 pd_seq rfl (hf := by first | decide | (simp [b_isym, Bx.R]; done) | (simp [b_isym, Bx.R]; omega)) (hl := by first | decide | (simp [b_isym, Bx.R]; done) | (simp [b_isym, Bx.R]; omega)) (hc := by first | decide | (simp [b_isym, Bx.R]; done) | (simp [b_isym, Bx.R]; omega)) (hs := by first | decide | (simp [b_isym, Bx.R]; done) | (simp [b_isym, Bx.R]; omega))
    rw [e1] at H8
    have H8 : Hr x b_isym Z EL1 0 0 h0 [] 18 #[.val (.ref s), .val (.ref c)] [.int (if bs = ds then 1 else 0)] := H8
    by_cases he : bs = ds
    · have e2 : (if bs = ds then (1 : Int32) else 0) = 1 := if_pos he
      have H9 : Hr x b_isym Z EL1 0 0 h0 [] 21 #[.val (.ref s), .val (.ref c)] [] := H8.ifF d_isym_18 (XT.i0_eq_f (by rw [e2]; decide))
      have H10 : Hr x b_isym Z EL1 0 0 h0 [] 22 #[.val (.ref s), .val (.ref c)] [.int (1 : Int32)] := H9.iconst d_isym_21
      have H11 : Hr x b_isym Z EL1 0 0 h0 [] 26 #[.val (.ref s), .val (.ref c)] [.int (1 : Int32)] := H10.goto d_isym_22
      exact H11.finZ d_isym_26 (t := .boolean) (by first | rfl | decide) ⟨by rw [if_pos ⟨hk, he⟩], rfl, rfl⟩ sub0
    · have e2 : (if bs = ds then (1 : Int32) else 0) = 0 := if_neg he
      have H12 : Hr x b_isym Z EL1 0 0 h0 [] 25 #[.val (.ref s), .val (.ref c)] [] := H8.ifT d_isym_18 (XT.i0_eq_t e2)
      have H13 : Hr x b_isym Z EL1 0 0 h0 [] 26 #[.val (.ref s), .val (.ref c)] [.int (0 : Int32)] := H12.iconst d_isym_25
      exact H13.finZ d_isym_26 (t := .boolean) (by first | rfl | decide) ⟨by rw [if_neg fun q => he q.2], rfl, rfl⟩ sub0
  · have hk2 : XT.acmp .ne (.ref k) (.ref m) = true := by simp [XT.acmp, hk]
    have H101 : Hr x b_isym Z EL1 0 0 h0 [] 25 #[.val (.ref s), .val (.ref c)] [] := H3.acmpT d_isym_7 hk2
    have H102 : Hr x b_isym Z EL1 0 0 h0 [] 26 #[.val (.ref s), .val (.ref c)] [.int (0 : Int32)] := H101.iconst d_isym_25
    exact H102.finZ d_isym_26 (t := .boolean) (by first | rfl | decide) ⟨by rw [if_neg fun q => hk q.1], rfl, rfl⟩ sub0
theorem chr_rng (x : Int32) : ¬ (x &&& 255).toUInt32.toUInt16.toUInt32.toInt32 < 0 ∧ ¬ 255 < (x &&& 255).toUInt32.toUInt16.toUInt32.toInt32 := by
  rw [i2c_mask]
  have h := c_mask x 255 8 (by omega) (by decide)
  rw [Int32.lt_iff_toInt_lt, Int32.lt_iff_toInt_lt, h]
  have e1 : (0 : Int32).toInt = 0 := by decide
  have e2 : (255 : Int32).toInt = 255 := by decide
  rw [e1, e2]
  omega
theorem b8_inj {a c : Int32} (ha : ¬ a < 0 ∧ ¬ 255 < a) (hc : ¬ c < 0 ∧ ¬ 255 < c) (q : b8 a = b8 c) : a = c := by
  have h1 := c_i2b a
  have h2 := c_i2b c
  have e := congrArg Int32.toInt q
  unfold b8 at e
  obtain ⟨a1, a2⟩ := ha
  obtain ⟨c1, c2⟩ := hc
  rw [Int32.lt_iff_toInt_lt] at a1 a2 c1 c2
  have e1 : (0 : Int32).toInt = 0 := by decide
  have e2 : (255 : Int32).toInt = 255 := by decide
  rw [← Int32.toInt_inj]
  omega
theorem mod3 (x : Int32) : (x &&& 3) % 3 = 0 ∨ (x &&& 3) % 3 = 1 ∨ (x &&& 3) % 3 = 2 := by
  have h := c_mask x 3 2 (by omega) (by decide)
  have h2 := (c_irem (x &&& 3) 3 3 (by decide)).1 (by omega)
  have e : ∀ z : Int32, z.toInt = 0 ∨ z.toInt = 1 ∨ z.toInt = 2 → z = 0 ∨ z = 1 ∨ z = 2 := fun z hz => by
    rcases hz with q | q | q
    · exact Or.inl (Int32.toInt_inj.mp (by rw [q]; decide))
    · exact Or.inr (Or.inl (Int32.toInt_inj.mp (by rw [q]; decide)))
    · exact Or.inr (Or.inr (Int32.toInt_inj.mp (by rw [q]; decide)))
  apply e
  omega
theorem sOf_eq {n m c0 c1 d0 d1 : Int32} (hn : n = 0 ∨ n = 1 ∨ n = 2) (hm : m = 0 ∨ m = 1 ∨ m = 2) (p0 : ¬ c0 < 0 ∧ ¬ 255 < c0) (p1 : ¬ c1 < 0 ∧ ¬ 255 < c1) (r0 : ¬ d0 < 0 ∧ ¬ 255 < d0) (r1 : ¬ d1 < 0 ∧ ¬ 255 < d1) :
    ((sOf n c0 c1).map b8 = (sOf m d0 d1).map b8) ↔ (n = m ∧ (n < 1 ∨ c0 = d0) ∧ (n < 2 ∨ c1 = d1)) := by
  have i0 : b8 c0 = b8 d0 ↔ c0 = d0 := ⟨b8_inj p0 r0, fun q => by rw [q]⟩
  have i1 : b8 c1 = b8 d1 ↔ c1 = d1 := ⟨b8_inj p1 r1, fun q => by rw [q]⟩
  rcases hn with rfl | rfl | rfl <;> rcases hm with rfl | rfl | rfl <;> simp [sOf, i0, i1]
theorem kd_iff {ks : List Addr} (hD : ∀ j ∈ ([0, 1, 2, 3, 4, 6] : List Nat), ks.getD j 0 ≠ ks.getD 5 0) (i : Int32) : kd ks i = ks.getD 5 0 ↔ i = 5 := by
  unfold kd
  have d0 := hD 0 (by decide)
  have d1 := hD 1 (by decide)
  have d2 := hD 2 (by decide)
  have d3 := hD 3 (by decide)
  have d4 := hD 4 (by decide)
  have d6 := hD 6 (by decide)
  split
  · rename_i q; subst q; exact ⟨fun z => absurd z d0, fun z => absurd z (by decide)⟩
  split
  · rename_i q; subst q; exact ⟨fun z => absurd z d1, fun z => absurd z (by decide)⟩
  split
  · rename_i q; subst q; exact ⟨fun z => absurd z d2, fun z => absurd z (by decide)⟩
  split
  · rename_i q; subst q; exact ⟨fun z => absurd z d3, fun z => absurd z (by decide)⟩
  split
  · rename_i q; subst q; exact ⟨fun z => absurd z d4, fun z => absurd z (by decide)⟩
  split
  · rename_i q; exact ⟨fun _ => q, fun _ => rfl⟩
  · rename_i q; exact ⟨fun z => absurd z d6, fun z => absurd z q⟩
def b_at : Bx := (({ frames := 8, cells := 24, slots := 1152, locals := 192 } : Room), (⟨"com/example/strict_mapper/strictmapper/query/TokenIsSymbolPinLaw", "law", "(IIIII)Z"⟩ : MethodName), code, 17, ret)
theorem ef_at (p0 p1 p2 p3 p4 : Int32) (m : MethodId) : entryFrame m #[.int p0, .int p1, .int p2, .int p3, .int p4] 17 = mkF m 0 #[.val (.int p0), .val (.int p1), .val (.int p2), .val (.int p3), .val (.int p4), .unset, .unset, .unset, .unset, .unset, .unset, .unset, .unset, .unset, .unset, .unset, .unset] [] := by first | (simp [entryFrame, mkF, argsToLocals, Value.category]; done) | rfl
theorem pd_at : parseMethodDescriptor "(IIIII)Z" = some ⟨[.int, .int, .int, .int, .int], some .boolean⟩ := by decide +kernel
set_option maxRecDepth 65536 in
set_option maxHeartbeats 4000000 in
theorem ct_law {a0 : Array Value} {Z : State} (hw : ∀ d ∈ tables_1, d.before a0 Z = true) (l : Launch) (nar kn : Bool) (hnr : nar = false) (h0 : Heap) (p0 p1 p2 p3 p4 : Int32) (ks : List Addr) (Ks : Kinds Z ks) (hD : ∀ j ∈ ([0, 1, 2, 3, 4, 6] : List Nat), ks.getD j 0 ≠ ks.getD 5 0) (cz : Int32) (O : Sta Z Z.heap "java/lang/String" "COMPACT_STRINGS" "Z" (.int cz)) (hcz : ¬ cz = 0) :
    Ct l Z EL1 (⟨"com/example/strict_mapper/strictmapper/query/TokenIsSymbolPinLaw", "law", "(IIIII)Z"⟩ : MethodName) code 17 ret ({ frames := 8, cells := 24, slots := 1152, locals := 192 } : Room) #[.int p0, .int p1, .int p2, .int p3, .int p4] h0 [] nar kn (fun v h sn => v = some (.int 1) ∧ sn = []) := by
  refine Ct.intro pn_com_example_strict_mapper_strictmapper_query_TokenIsSymbolPinLaw (ew hw) (ef_at p0 p1 p2 p3 p4) ?_
  intro x hl hn0 hkn hsf hh H0
  have hnar : x.nar = false := hn0.trans hnr
  have H0 : Hr x b_at Z EL1 0 0 h0 [] 0 #[.val (.int p0), .val (.int p1), .val (.int p2), .val (.int p3), .val (.int p4), .unset, .unset, .unset, .unset, .unset, .unset, .unset, .unset, .unset, .unset, .unset, .unset] [] := H0
  obtain ⟨ki, hki⟩ : ∃ z, (p0 &&& (2147483647 : Int32)) % (7 : Int32) = z := ⟨_, rfl⟩
  obtain ⟨lt, hlt⟩ : ∃ z, (p3 &&& (3 : Int32)) % (3 : Int32) = z := ⟨_, rfl⟩
  obtain ⟨ls, hls⟩ : ∃ z, (XT.ushr p3 (2 : Int32) &&& (3 : Int32)) % (3 : Int32) = z := ⟨_, rfl⟩
  obtain ⟨t0, ht0⟩ : ∃ z, (p1 &&& (255 : Int32)).toUInt32.toUInt16.toUInt32.toInt32 = z := ⟨_, rfl⟩
  obtain ⟨t1, ht1⟩ : ∃ z, (XT.ushr p1 (8 : Int32) &&& (255 : Int32)).toUInt32.toUInt16.toUInt32.toInt32 = z := ⟨_, rfl⟩
  have r0 : ¬ t0 < 0 ∧ ¬ 255 < t0 := ht0 ▸ chr_rng p1
  have r1 : ¬ t1 < 0 ∧ ¬ 255 < t1 := ht1 ▸ chr_rng (XT.ushr p1 8)
  have m1 := hlt ▸ mod3 p3
  have m2 := hls ▸ mod3 (XT.ushr p3 2)
  have H1 : Hr x b_at Z EL1 0 0 h0 [] 1 #[.val (.int p0), .val (.int p1), .val (.int p2), .val (.int p3), .val (.int p4), .unset, .unset, .unset, .unset, .unset, .unset, .unset, .unset, .unset, .unset, .unset, .unset] [.int p0] := H0.iloadN at_0
  have H2 : Hr x b_at Z EL1 0 0 h0 [] 3 #[.val (.int p0), .val (.int p1), .val (.int p2), .val (.int p3), .val (.int p4), .unset, .unset, .unset, .unset, .unset, .unset, .unset, .unset, .unset, .unset, .unset, .unset] [.int (2147483647 : Int32), .int p0] := H1.ldcI (w0 hw) at_1
  have H3 : Hr x b_at Z EL1 0 0 h0 [] 4 #[.val (.int p0), .val (.int p1), .val (.int p2), .val (.int p3), .val (.int p4), .unset, .unset, .unset, .unset, .unset, .unset, .unset, .unset, .unset, .unset, .unset, .unset] [.int (p0 &&& (2147483647 : Int32))] := H2.iand at_3
  have H4 : Hr x b_at Z EL1 0 0 h0 [] 6 #[.val (.int p0), .val (.int p1), .val (.int p2), .val (.int p3), .val (.int p4), .unset, .unset, .unset, .unset, .unset, .unset, .unset, .unset, .unset, .unset, .unset, .unset] [.int (7 : Int32), .int (p0 &&& (2147483647 : Int32))] := H3.bipush at_4
  have H5 : Hr x b_at Z EL1 0 0 h0 [] 7 #[.val (.int p0), .val (.int p1), .val (.int p2), .val (.int p3), .val (.int p4), .unset, .unset, .unset, .unset, .unset, .unset, .unset, .unset, .unset, .unset, .unset, .unset] [.int ki] := H4.irem at_6 (by decide) (hv := hki)
  have H6 : Hr x b_at Z EL1 0 0 h0 [] 9 #[.val (.int p0), .val (.int p1), .val (.int p2), .val (.int p3), .val (.int p4), .val (.int ki), .unset, .unset, .unset, .unset, .unset, .unset, .unset, .unset, .unset, .unset, .unset] [] := H5.istore at_7
  have H7 : Hr x b_at Z EL1 0 0 h0 [] 11 #[.val (.int p0), .val (.int p1), .val (.int p2), .val (.int p3), .val (.int p4), .val (.int ki), .unset, .unset, .unset, .unset, .unset, .unset, .unset, .unset, .unset, .unset, .unset] [.int ki] := H6.iload at_9
  obtain ⟨_, h1, _, ⟨rfl, rfl, e1⟩, K1, H8⟩ := H7.callS (argsL := [.int ki]) (rest := []) (Wr := 0) (ct_kof hw x.l x.nar x.kn hnar h0 ki ks Ks) sub0 (w1 hw) (w2 hw) (w3 hw) (w4 hw) at_11 pd_kof rfl (hf := by first | decide | (simp [b_at, Bx.R]; done) | (simp [b_at, Bx.R]; omega)) (hl := by first | decide | (simp [b_at, Bx.R]; done) | (simp [b_at, Bx.R]; omega)) (hc := by first | decide | (simp [b_at, Bx.R]; done) | (simp [b_at, Bx.R]; omega)) (hs := by first | decide | (simp [b_at, Bx.R]; done) | (simp [b_at, Bx.R]; omega))
  rw [e1] at H8
  have H8 : Hr x b_at Z EL1 0 0 h0 [] 14 #[.val (.int p0), .val (.int p1), .val (.int p2), .val (.int p3), .val (.int p4), .val (.int ki), .unset, .unset, .unset, .unset, .unset, .unset, .unset, .unset, .unset, .unset, .unset] [.ref (kd ks ki)] := H8
  have H9 : Hr x b_at Z EL1 0 0 h0 [] 16 #[.val (.int p0), .val (.int p1), .val (.int p2), .val (.int p3), .val (.int p4), .val (.int ki), .val (.ref (kd ks ki)), .unset, .unset, .unset, .unset, .unset, .unset, .unset, .unset, .unset, .unset] [] := H8.astore at_14
  have H10 : Hr x b_at Z EL1 0 0 h0 [] 17 #[.val (.int p0), .val (.int p1), .val (.int p2), .val (.int p3), .val (.int p4), .val (.int ki), .val (.ref (kd ks ki)), .unset, .unset, .unset, .unset, .unset, .unset, .unset, .unset, .unset, .unset] [.int p3] := H9.iloadN at_16
  have H11 : Hr x b_at Z EL1 0 0 h0 [] 18 #[.val (.int p0), .val (.int p1), .val (.int p2), .val (.int p3), .val (.int p4), .val (.int ki), .val (.ref (kd ks ki)), .unset, .unset, .unset, .unset, .unset, .unset, .unset, .unset, .unset, .unset] [.int (3 : Int32), .int p3] := H10.iconst at_17
  have H12 : Hr x b_at Z EL1 0 0 h0 [] 19 #[.val (.int p0), .val (.int p1), .val (.int p2), .val (.int p3), .val (.int p4), .val (.int ki), .val (.ref (kd ks ki)), .unset, .unset, .unset, .unset, .unset, .unset, .unset, .unset, .unset, .unset] [.int (p3 &&& (3 : Int32))] := H11.iand at_18
  have H13 : Hr x b_at Z EL1 0 0 h0 [] 20 #[.val (.int p0), .val (.int p1), .val (.int p2), .val (.int p3), .val (.int p4), .val (.int ki), .val (.ref (kd ks ki)), .unset, .unset, .unset, .unset, .unset, .unset, .unset, .unset, .unset, .unset] [.int (3 : Int32), .int (p3 &&& (3 : Int32))] := H12.iconst at_19
  have H14 : Hr x b_at Z EL1 0 0 h0 [] 21 #[.val (.int p0), .val (.int p1), .val (.int p2), .val (.int p3), .val (.int p4), .val (.int ki), .val (.ref (kd ks ki)), .unset, .unset, .unset, .unset, .unset, .unset, .unset, .unset, .unset, .unset] [.int lt] := H13.irem at_20 (by decide) (hv := hlt)
  have H15 : Hr x b_at Z EL1 0 0 h0 [] 23 #[.val (.int p0), .val (.int p1), .val (.int p2), .val (.int p3), .val (.int p4), .val (.int ki), .val (.ref (kd ks ki)), .val (.int lt), .unset, .unset, .unset, .unset, .unset, .unset, .unset, .unset, .unset] [] := H14.istore at_21
  have H16 : Hr x b_at Z EL1 0 0 h0 [] 24 #[.val (.int p0), .val (.int p1), .val (.int p2), .val (.int p3), .val (.int p4), .val (.int ki), .val (.ref (kd ks ki)), .val (.int lt), .unset, .unset, .unset, .unset, .unset, .unset, .unset, .unset, .unset] [.int p3] := H15.iloadN at_23
  have H17 : Hr x b_at Z EL1 0 0 h0 [] 25 #[.val (.int p0), .val (.int p1), .val (.int p2), .val (.int p3), .val (.int p4), .val (.int ki), .val (.ref (kd ks ki)), .val (.int lt), .unset, .unset, .unset, .unset, .unset, .unset, .unset, .unset, .unset] [.int (2 : Int32), .int p3] := H16.iconst at_24
  have H18 : Hr x b_at Z EL1 0 0 h0 [] 26 #[.val (.int p0), .val (.int p1), .val (.int p2), .val (.int p3), .val (.int p4), .val (.int ki), .val (.ref (kd ks ki)), .val (.int lt), .unset, .unset, .unset, .unset, .unset, .unset, .unset, .unset, .unset] [.int (XT.ushr p3 (2 : Int32))] := H17.iushr at_25
  have H19 : Hr x b_at Z EL1 0 0 h0 [] 27 #[.val (.int p0), .val (.int p1), .val (.int p2), .val (.int p3), .val (.int p4), .val (.int ki), .val (.ref (kd ks ki)), .val (.int lt), .unset, .unset, .unset, .unset, .unset, .unset, .unset, .unset, .unset] [.int (3 : Int32), .int (XT.ushr p3 (2 : Int32))] := H18.iconst at_26
  have H20 : Hr x b_at Z EL1 0 0 h0 [] 28 #[.val (.int p0), .val (.int p1), .val (.int p2), .val (.int p3), .val (.int p4), .val (.int ki), .val (.ref (kd ks ki)), .val (.int lt), .unset, .unset, .unset, .unset, .unset, .unset, .unset, .unset, .unset] [.int ((XT.ushr p3 (2 : Int32)) &&& (3 : Int32))] := H19.iand at_27
  have H21 : Hr x b_at Z EL1 0 0 h0 [] 29 #[.val (.int p0), .val (.int p1), .val (.int p2), .val (.int p3), .val (.int p4), .val (.int ki), .val (.ref (kd ks ki)), .val (.int lt), .unset, .unset, .unset, .unset, .unset, .unset, .unset, .unset, .unset] [.int (3 : Int32), .int ((XT.ushr p3 (2 : Int32)) &&& (3 : Int32))] := H20.iconst at_28
  have H22 : Hr x b_at Z EL1 0 0 h0 [] 30 #[.val (.int p0), .val (.int p1), .val (.int p2), .val (.int p3), .val (.int p4), .val (.int ki), .val (.ref (kd ks ki)), .val (.int lt), .unset, .unset, .unset, .unset, .unset, .unset, .unset, .unset, .unset] [.int ls] := H21.irem at_29 (by decide) (hv := hls)
  have H23 : Hr x b_at Z EL1 0 0 h0 [] 32 #[.val (.int p0), .val (.int p1), .val (.int p2), .val (.int p3), .val (.int p4), .val (.int ki), .val (.ref (kd ks ki)), .val (.int lt), .val (.int ls), .unset, .unset, .unset, .unset, .unset, .unset, .unset, .unset] [] := H22.istore at_30
  have H24 : Hr x b_at Z EL1 0 0 h0 [] 33 #[.val (.int p0), .val (.int p1), .val (.int p2), .val (.int p3), .val (.int p4), .val (.int ki), .val (.ref (kd ks ki)), .val (.int lt), .val (.int ls), .unset, .unset, .unset, .unset, .unset, .unset, .unset, .unset] [.int p1] := H23.iloadN at_32
  have H25 : Hr x b_at Z EL1 0 0 h0 [] 36 #[.val (.int p0), .val (.int p1), .val (.int p2), .val (.int p3), .val (.int p4), .val (.int ki), .val (.ref (kd ks ki)), .val (.int lt), .val (.int ls), .unset, .unset, .unset, .unset, .unset, .unset, .unset, .unset] [.int (255 : Int32), .int p1] := H24.sipush at_33
  have H26 : Hr x b_at Z EL1 0 0 h0 [] 37 #[.val (.int p0), .val (.int p1), .val (.int p2), .val (.int p3), .val (.int p4), .val (.int ki), .val (.ref (kd ks ki)), .val (.int lt), .val (.int ls), .unset, .unset, .unset, .unset, .unset, .unset, .unset, .unset] [.int (p1 &&& (255 : Int32))] := H25.iand at_36
  have H27 : Hr x b_at Z EL1 0 0 h0 [] 38 #[.val (.int p0), .val (.int p1), .val (.int p2), .val (.int p3), .val (.int p4), .val (.int ki), .val (.ref (kd ks ki)), .val (.int lt), .val (.int ls), .unset, .unset, .unset, .unset, .unset, .unset, .unset, .unset] [.int t0] := H26.i2c at_37 (hv := ht0)
  have H28 : Hr x b_at Z EL1 0 0 h0 [] 40 #[.val (.int p0), .val (.int p1), .val (.int p2), .val (.int p3), .val (.int p4), .val (.int ki), .val (.ref (kd ks ki)), .val (.int lt), .val (.int ls), .val (.int t0), .unset, .unset, .unset, .unset, .unset, .unset, .unset] [] := H27.istore at_38
  have H29 : Hr x b_at Z EL1 0 0 h0 [] 41 #[.val (.int p0), .val (.int p1), .val (.int p2), .val (.int p3), .val (.int p4), .val (.int ki), .val (.ref (kd ks ki)), .val (.int lt), .val (.int ls), .val (.int t0), .unset, .unset, .unset, .unset, .unset, .unset, .unset] [.int p1] := H28.iloadN at_40
  have H30 : Hr x b_at Z EL1 0 0 h0 [] 43 #[.val (.int p0), .val (.int p1), .val (.int p2), .val (.int p3), .val (.int p4), .val (.int ki), .val (.ref (kd ks ki)), .val (.int lt), .val (.int ls), .val (.int t0), .unset, .unset, .unset, .unset, .unset, .unset, .unset] [.int (8 : Int32), .int p1] := H29.bipush at_41
  have H31 : Hr x b_at Z EL1 0 0 h0 [] 44 #[.val (.int p0), .val (.int p1), .val (.int p2), .val (.int p3), .val (.int p4), .val (.int ki), .val (.ref (kd ks ki)), .val (.int lt), .val (.int ls), .val (.int t0), .unset, .unset, .unset, .unset, .unset, .unset, .unset] [.int (XT.ushr p1 (8 : Int32))] := H30.iushr at_43
  have H32 : Hr x b_at Z EL1 0 0 h0 [] 47 #[.val (.int p0), .val (.int p1), .val (.int p2), .val (.int p3), .val (.int p4), .val (.int ki), .val (.ref (kd ks ki)), .val (.int lt), .val (.int ls), .val (.int t0), .unset, .unset, .unset, .unset, .unset, .unset, .unset] [.int (255 : Int32), .int (XT.ushr p1 (8 : Int32))] := H31.sipush at_44
  have H33 : Hr x b_at Z EL1 0 0 h0 [] 48 #[.val (.int p0), .val (.int p1), .val (.int p2), .val (.int p3), .val (.int p4), .val (.int ki), .val (.ref (kd ks ki)), .val (.int lt), .val (.int ls), .val (.int t0), .unset, .unset, .unset, .unset, .unset, .unset, .unset] [.int ((XT.ushr p1 (8 : Int32)) &&& (255 : Int32))] := H32.iand at_47
  have H34 : Hr x b_at Z EL1 0 0 h0 [] 49 #[.val (.int p0), .val (.int p1), .val (.int p2), .val (.int p3), .val (.int p4), .val (.int ki), .val (.ref (kd ks ki)), .val (.int lt), .val (.int ls), .val (.int t0), .unset, .unset, .unset, .unset, .unset, .unset, .unset] [.int t1] := H33.i2c at_48 (hv := ht1)
  have H35 : Hr x b_at Z EL1 0 0 h0 [] 51 #[.val (.int p0), .val (.int p1), .val (.int p2), .val (.int p3), .val (.int p4), .val (.int ki), .val (.ref (kd ks ki)), .val (.int lt), .val (.int ls), .val (.int t0), .val (.int t1), .unset, .unset, .unset, .unset, .unset, .unset] [] := H34.istore at_49
  have H36 : Hr x b_at Z EL1 0 0 h0 [] 52 #[.val (.int p0), .val (.int p1), .val (.int p2), .val (.int p3), .val (.int p4), .val (.int ki), .val (.ref (kd ks ki)), .val (.int lt), .val (.int ls), .val (.int t0), .val (.int t1), .unset, .unset, .unset, .unset, .unset, .unset] [.int p3] := H35.iloadN at_51
  have H37 : Hr x b_at Z EL1 0 0 h0 [] 53 #[.val (.int p0), .val (.int p1), .val (.int p2), .val (.int p3), .val (.int p4), .val (.int ki), .val (.ref (kd ks ki)), .val (.int lt), .val (.int ls), .val (.int t0), .val (.int t1), .unset, .unset, .unset, .unset, .unset, .unset] [.int (4 : Int32), .int p3] := H36.iconst at_52
  have H38 : Hr x b_at Z EL1 0 0 h0 [] 54 #[.val (.int p0), .val (.int p1), .val (.int p2), .val (.int p3), .val (.int p4), .val (.int ki), .val (.ref (kd ks ki)), .val (.int lt), .val (.int ls), .val (.int t0), .val (.int t1), .unset, .unset, .unset, .unset, .unset, .unset] [.int (XT.ushr p3 (4 : Int32))] := H37.iushr at_53
  have H39 : Hr x b_at Z EL1 0 0 h0 [] 55 #[.val (.int p0), .val (.int p1), .val (.int p2), .val (.int p3), .val (.int p4), .val (.int ki), .val (.ref (kd ks ki)), .val (.int lt), .val (.int ls), .val (.int t0), .val (.int t1), .unset, .unset, .unset, .unset, .unset, .unset] [.int (1 : Int32), .int (XT.ushr p3 (4 : Int32))] := H38.iconst at_54
  have H40 : Hr x b_at Z EL1 0 0 h0 [] 56 #[.val (.int p0), .val (.int p1), .val (.int p2), .val (.int p3), .val (.int p4), .val (.int ki), .val (.ref (kd ks ki)), .val (.int lt), .val (.int ls), .val (.int t0), .val (.int t1), .unset, .unset, .unset, .unset, .unset, .unset] [.int ((XT.ushr p3 (4 : Int32)) &&& (1 : Int32))] := H39.iand at_55
  obtain ⟨s0, hs0, H41⟩ : ∃ s0, (¬ s0 < 0 ∧ ¬ 255 < s0) ∧ Hr x b_at Z EL1 0 0 h0 [] 70 #[.val (.int p0), .val (.int p1), .val (.int p2), .val (.int p3), .val (.int p4), .val (.int ki), .val (.ref (kd ks ki)), .val (.int lt), .val (.int ls), .val (.int t0), .val (.int t1), .unset, .unset, .unset, .unset, .unset, .unset] [.int s0] := by
    by_cases q : ((XT.ushr p3 (4 : Int32)) &&& (1 : Int32)) = 0
    · have q2 := q
      have H41 : Hr x b_at Z EL1 0 0 h0 [] 64 #[.val (.int p0), .val (.int p1), .val (.int p2), .val (.int p3), .val (.int p4), .val (.int ki), .val (.ref (kd ks ki)), .val (.int lt), .val (.int ls), .val (.int t0), .val (.int t1), .unset, .unset, .unset, .unset, .unset, .unset] [] := H40.ifT at_56 (XT.i0_eq_t q)
      have H42 : Hr x b_at Z EL1 0 0 h0 [] 65 #[.val (.int p0), .val (.int p1), .val (.int p2), .val (.int p3), .val (.int p4), .val (.int ki), .val (.ref (kd ks ki)), .val (.int lt), .val (.int ls), .val (.int t0), .val (.int t1), .unset, .unset, .unset, .unset, .unset, .unset] [.int p2] := H41.iloadN at_64
      have H43 : Hr x b_at Z EL1 0 0 h0 [] 68 #[.val (.int p0), .val (.int p1), .val (.int p2), .val (.int p3), .val (.int p4), .val (.int ki), .val (.ref (kd ks ki)), .val (.int lt), .val (.int ls), .val (.int t0), .val (.int t1), .unset, .unset, .unset, .unset, .unset, .unset] [.int (255 : Int32), .int p2] := H42.sipush at_65
      have H44 : Hr x b_at Z EL1 0 0 h0 [] 69 #[.val (.int p0), .val (.int p1), .val (.int p2), .val (.int p3), .val (.int p4), .val (.int ki), .val (.ref (kd ks ki)), .val (.int lt), .val (.int ls), .val (.int t0), .val (.int t1), .unset, .unset, .unset, .unset, .unset, .unset] [.int (p2 &&& (255 : Int32))] := H43.iand at_68
      have H45 : Hr x b_at Z EL1 0 0 h0 [] 70 #[.val (.int p0), .val (.int p1), .val (.int p2), .val (.int p3), .val (.int p4), .val (.int ki), .val (.ref (kd ks ki)), .val (.int lt), .val (.int ls), .val (.int t0), .val (.int t1), .unset, .unset, .unset, .unset, .unset, .unset] [.int ((p2 &&& (255 : Int32)).toUInt32.toUInt16.toUInt32.toInt32)] := H44.i2c at_69
      exact ⟨_, (chr_rng p2), H45⟩
    · have q2 := q
      have H46 : Hr x b_at Z EL1 0 0 h0 [] 59 #[.val (.int p0), .val (.int p1), .val (.int p2), .val (.int p3), .val (.int p4), .val (.int ki), .val (.ref (kd ks ki)), .val (.int lt), .val (.int ls), .val (.int t0), .val (.int t1), .unset, .unset, .unset, .unset, .unset, .unset] [] := H40.ifF at_56 (XT.i0_eq_f q)
      have H47 : Hr x b_at Z EL1 0 0 h0 [] 61 #[.val (.int p0), .val (.int p1), .val (.int p2), .val (.int p3), .val (.int p4), .val (.int ki), .val (.ref (kd ks ki)), .val (.int lt), .val (.int ls), .val (.int t0), .val (.int t1), .unset, .unset, .unset, .unset, .unset, .unset] [.int t0] := H46.iload at_59
      have H48 : Hr x b_at Z EL1 0 0 h0 [] 70 #[.val (.int p0), .val (.int p1), .val (.int p2), .val (.int p3), .val (.int p4), .val (.int ki), .val (.ref (kd ks ki)), .val (.int lt), .val (.int ls), .val (.int t0), .val (.int t1), .unset, .unset, .unset, .unset, .unset, .unset] [.int t0] := H47.goto at_61
      exact ⟨_, r0, H48⟩
  have H49 : Hr x b_at Z EL1 0 0 h0 [] 72 #[.val (.int p0), .val (.int p1), .val (.int p2), .val (.int p3), .val (.int p4), .val (.int ki), .val (.ref (kd ks ki)), .val (.int lt), .val (.int ls), .val (.int t0), .val (.int t1), .val (.int s0), .unset, .unset, .unset, .unset, .unset] [] := H41.istore at_70
  have H50 : Hr x b_at Z EL1 0 0 h0 [] 73 #[.val (.int p0), .val (.int p1), .val (.int p2), .val (.int p3), .val (.int p4), .val (.int ki), .val (.ref (kd ks ki)), .val (.int lt), .val (.int ls), .val (.int t0), .val (.int t1), .val (.int s0), .unset, .unset, .unset, .unset, .unset] [.int p3] := H49.iloadN at_72
  have H51 : Hr x b_at Z EL1 0 0 h0 [] 74 #[.val (.int p0), .val (.int p1), .val (.int p2), .val (.int p3), .val (.int p4), .val (.int ki), .val (.ref (kd ks ki)), .val (.int lt), .val (.int ls), .val (.int t0), .val (.int t1), .val (.int s0), .unset, .unset, .unset, .unset, .unset] [.int (5 : Int32), .int p3] := H50.iconst at_73
  have H52 : Hr x b_at Z EL1 0 0 h0 [] 75 #[.val (.int p0), .val (.int p1), .val (.int p2), .val (.int p3), .val (.int p4), .val (.int ki), .val (.ref (kd ks ki)), .val (.int lt), .val (.int ls), .val (.int t0), .val (.int t1), .val (.int s0), .unset, .unset, .unset, .unset, .unset] [.int (XT.ushr p3 (5 : Int32))] := H51.iushr at_74
  have H53 : Hr x b_at Z EL1 0 0 h0 [] 76 #[.val (.int p0), .val (.int p1), .val (.int p2), .val (.int p3), .val (.int p4), .val (.int ki), .val (.ref (kd ks ki)), .val (.int lt), .val (.int ls), .val (.int t0), .val (.int t1), .val (.int s0), .unset, .unset, .unset, .unset, .unset] [.int (1 : Int32), .int (XT.ushr p3 (5 : Int32))] := H52.iconst at_75
  have H54 : Hr x b_at Z EL1 0 0 h0 [] 77 #[.val (.int p0), .val (.int p1), .val (.int p2), .val (.int p3), .val (.int p4), .val (.int ki), .val (.ref (kd ks ki)), .val (.int lt), .val (.int ls), .val (.int t0), .val (.int t1), .val (.int s0), .unset, .unset, .unset, .unset, .unset] [.int ((XT.ushr p3 (5 : Int32)) &&& (1 : Int32))] := H53.iand at_76
  obtain ⟨s1, hs1, H55⟩ : ∃ s1, (¬ s1 < 0 ∧ ¬ 255 < s1) ∧ Hr x b_at Z EL1 0 0 h0 [] 94 #[.val (.int p0), .val (.int p1), .val (.int p2), .val (.int p3), .val (.int p4), .val (.int ki), .val (.ref (kd ks ki)), .val (.int lt), .val (.int ls), .val (.int t0), .val (.int t1), .val (.int s0), .unset, .unset, .unset, .unset, .unset] [.int s1] := by
    by_cases q : ((XT.ushr p3 (5 : Int32)) &&& (1 : Int32)) = 0
    · have q2 := q
      have H55 : Hr x b_at Z EL1 0 0 h0 [] 85 #[.val (.int p0), .val (.int p1), .val (.int p2), .val (.int p3), .val (.int p4), .val (.int ki), .val (.ref (kd ks ki)), .val (.int lt), .val (.int ls), .val (.int t0), .val (.int t1), .val (.int s0), .unset, .unset, .unset, .unset, .unset] [] := H54.ifT at_77 (XT.i0_eq_t q)
      have H56 : Hr x b_at Z EL1 0 0 h0 [] 86 #[.val (.int p0), .val (.int p1), .val (.int p2), .val (.int p3), .val (.int p4), .val (.int ki), .val (.ref (kd ks ki)), .val (.int lt), .val (.int ls), .val (.int t0), .val (.int t1), .val (.int s0), .unset, .unset, .unset, .unset, .unset] [.int p2] := H55.iloadN at_85
      have H57 : Hr x b_at Z EL1 0 0 h0 [] 88 #[.val (.int p0), .val (.int p1), .val (.int p2), .val (.int p3), .val (.int p4), .val (.int ki), .val (.ref (kd ks ki)), .val (.int lt), .val (.int ls), .val (.int t0), .val (.int t1), .val (.int s0), .unset, .unset, .unset, .unset, .unset] [.int (8 : Int32), .int p2] := H56.bipush at_86
      have H58 : Hr x b_at Z EL1 0 0 h0 [] 89 #[.val (.int p0), .val (.int p1), .val (.int p2), .val (.int p3), .val (.int p4), .val (.int ki), .val (.ref (kd ks ki)), .val (.int lt), .val (.int ls), .val (.int t0), .val (.int t1), .val (.int s0), .unset, .unset, .unset, .unset, .unset] [.int (XT.ushr p2 (8 : Int32))] := H57.iushr at_88
      have H59 : Hr x b_at Z EL1 0 0 h0 [] 92 #[.val (.int p0), .val (.int p1), .val (.int p2), .val (.int p3), .val (.int p4), .val (.int ki), .val (.ref (kd ks ki)), .val (.int lt), .val (.int ls), .val (.int t0), .val (.int t1), .val (.int s0), .unset, .unset, .unset, .unset, .unset] [.int (255 : Int32), .int (XT.ushr p2 (8 : Int32))] := H58.sipush at_89
      have H60 : Hr x b_at Z EL1 0 0 h0 [] 93 #[.val (.int p0), .val (.int p1), .val (.int p2), .val (.int p3), .val (.int p4), .val (.int ki), .val (.ref (kd ks ki)), .val (.int lt), .val (.int ls), .val (.int t0), .val (.int t1), .val (.int s0), .unset, .unset, .unset, .unset, .unset] [.int ((XT.ushr p2 (8 : Int32)) &&& (255 : Int32))] := H59.iand at_92
      have H61 : Hr x b_at Z EL1 0 0 h0 [] 94 #[.val (.int p0), .val (.int p1), .val (.int p2), .val (.int p3), .val (.int p4), .val (.int ki), .val (.ref (kd ks ki)), .val (.int lt), .val (.int ls), .val (.int t0), .val (.int t1), .val (.int s0), .unset, .unset, .unset, .unset, .unset] [.int (((XT.ushr p2 (8 : Int32)) &&& (255 : Int32)).toUInt32.toUInt16.toUInt32.toInt32)] := H60.i2c at_93
      exact ⟨_, (chr_rng (XT.ushr p2 8)), H61⟩
    · have q2 := q
      have H62 : Hr x b_at Z EL1 0 0 h0 [] 80 #[.val (.int p0), .val (.int p1), .val (.int p2), .val (.int p3), .val (.int p4), .val (.int ki), .val (.ref (kd ks ki)), .val (.int lt), .val (.int ls), .val (.int t0), .val (.int t1), .val (.int s0), .unset, .unset, .unset, .unset, .unset] [] := H54.ifF at_77 (XT.i0_eq_f q)
      have H63 : Hr x b_at Z EL1 0 0 h0 [] 82 #[.val (.int p0), .val (.int p1), .val (.int p2), .val (.int p3), .val (.int p4), .val (.int ki), .val (.ref (kd ks ki)), .val (.int lt), .val (.int ls), .val (.int t0), .val (.int t1), .val (.int s0), .unset, .unset, .unset, .unset, .unset] [.int t1] := H62.iload at_80
      have H64 : Hr x b_at Z EL1 0 0 h0 [] 94 #[.val (.int p0), .val (.int p1), .val (.int p2), .val (.int p3), .val (.int p4), .val (.int ki), .val (.ref (kd ks ki)), .val (.int lt), .val (.int ls), .val (.int t0), .val (.int t1), .val (.int s0), .unset, .unset, .unset, .unset, .unset] [.int t1] := H63.goto at_82
      exact ⟨_, r1, H64⟩
  have H65 : Hr x b_at Z EL1 0 0 h0 [] 96 #[.val (.int p0), .val (.int p1), .val (.int p2), .val (.int p3), .val (.int p4), .val (.int ki), .val (.ref (kd ks ki)), .val (.int lt), .val (.int ls), .val (.int t0), .val (.int t1), .val (.int s0), .val (.int s1), .unset, .unset, .unset, .unset] [] := H55.istore at_94
  have H66 : Hr x b_at Z EL1 0 0 h0 [] 98 #[.val (.int p0), .val (.int p1), .val (.int p2), .val (.int p3), .val (.int p4), .val (.int ki), .val (.ref (kd ks ki)), .val (.int lt), .val (.int ls), .val (.int t0), .val (.int t1), .val (.int s0), .val (.int s1), .unset, .unset, .unset, .unset] [.int lt] := H65.iload at_96
  have H67 : Hr x b_at Z EL1 0 0 h0 [] 100 #[.val (.int p0), .val (.int p1), .val (.int p2), .val (.int p3), .val (.int p4), .val (.int ki), .val (.ref (kd ks ki)), .val (.int lt), .val (.int ls), .val (.int t0), .val (.int t1), .val (.int s0), .val (.int s1), .unset, .unset, .unset, .unset] [.int t0, .int lt] := H66.iload at_98
  have H68 : Hr x b_at Z EL1 0 0 h0 [] 102 #[.val (.int p0), .val (.int p1), .val (.int p2), .val (.int p3), .val (.int p4), .val (.int ki), .val (.ref (kd ks ki)), .val (.int lt), .val (.int ls), .val (.int t0), .val (.int t1), .val (.int s0), .val (.int s1), .unset, .unset, .unset, .unset] [.int t1, .int t0, .int lt] := H67.iload at_100
  obtain ⟨_, h1, _, ⟨a1, u1, rfl, rfl, S1⟩, K1, H69⟩ := H68.callS (argsL := [.int lt, .int t0, .int t1]) (rest := []) (Wr := 0) (ct_str hw x.l x.nar x.kn hnar h0 lt t0 t1 r0 r1 cz O hcz) sub0 (w8 hw) (w9 hw) (w3 hw) (w10 hw) at_102 pd_str rfl (hf := by first | decide | (simp [b_at, Bx.R]; done) | (simp [b_at, Bx.R]; omega)) (hl := by first | decide | (simp [b_at, Bx.R]; done) | (simp [b_at, Bx.R]; omega)) (hc := by first | decide | (simp [b_at, Bx.R]; done) | (simp [b_at, Bx.R]; omega)) (hs := by first | decide | (simp [b_at, Bx.R]; done) | (simp [b_at, Bx.R]; omega))
  have H69 : Hr x b_at Z EL1 6 16 h1 [] 105 #[.val (.int p0), .val (.int p1), .val (.int p2), .val (.int p3), .val (.int p4), .val (.int ki), .val (.ref (kd ks ki)), .val (.int lt), .val (.int ls), .val (.int t0), .val (.int t1), .val (.int s0), .val (.int s1), .unset, .unset, .unset, .unset] [.ref a1] := H69
  have H70 : Hr x b_at Z EL1 6 16 h1 [] 107 #[.val (.int p0), .val (.int p1), .val (.int p2), .val (.int p3), .val (.int p4), .val (.int ki), .val (.ref (kd ks ki)), .val (.int lt), .val (.int ls), .val (.int t0), .val (.int t1), .val (.int s0), .val (.int s1), .val (.ref a1), .unset, .unset, .unset] [] := H69.astore at_105
  have H71 : Hr x b_at Z EL1 6 16 h1 [] 109 #[.val (.int p0), .val (.int p1), .val (.int p2), .val (.int p3), .val (.int p4), .val (.int ki), .val (.ref (kd ks ki)), .val (.int lt), .val (.int ls), .val (.int t0), .val (.int t1), .val (.int s0), .val (.int s1), .val (.ref a1), .unset, .unset, .unset] [.int ls] := H70.iload at_107
  have H72 : Hr x b_at Z EL1 6 16 h1 [] 111 #[.val (.int p0), .val (.int p1), .val (.int p2), .val (.int p3), .val (.int p4), .val (.int ki), .val (.ref (kd ks ki)), .val (.int lt), .val (.int ls), .val (.int t0), .val (.int t1), .val (.int s0), .val (.int s1), .val (.ref a1), .unset, .unset, .unset] [.int s0, .int ls] := H71.iload at_109
  have H73 : Hr x b_at Z EL1 6 16 h1 [] 113 #[.val (.int p0), .val (.int p1), .val (.int p2), .val (.int p3), .val (.int p4), .val (.int ki), .val (.ref (kd ks ki)), .val (.int lt), .val (.int ls), .val (.int t0), .val (.int t1), .val (.int s0), .val (.int s1), .val (.ref a1), .unset, .unset, .unset] [.int s1, .int s0, .int ls] := H72.iload at_111
  obtain ⟨_, h2, _, ⟨a2, u2, rfl, rfl, S2⟩, K2, H74⟩ := H73.callS (argsL := [.int ls, .int s0, .int s1]) (rest := []) (Wr := 0) (ct_str hw x.l x.nar x.kn hnar h1 ls s0 s1 hs0 hs1 cz O hcz) sub0 (w8 hw) (w9 hw) (w3 hw) (w10 hw) at_113 pd_str rfl (hf := by first | decide | (simp [b_at, Bx.R]; done) | (simp [b_at, Bx.R]; omega)) (hl := by first | decide | (simp [b_at, Bx.R]; done) | (simp [b_at, Bx.R]; omega)) (hc := by first | decide | (simp [b_at, Bx.R]; done) | (simp [b_at, Bx.R]; omega)) (hs := by first | decide | (simp [b_at, Bx.R]; done) | (simp [b_at, Bx.R]; omega))
  have H74 : Hr x b_at Z EL1 12 32 h2 [] 116 #[.val (.int p0), .val (.int p1), .val (.int p2), .val (.int p3), .val (.int p4), .val (.int ki), .val (.ref (kd ks ki)), .val (.int lt), .val (.int ls), .val (.int t0), .val (.int t1), .val (.int s0), .val (.int s1), .val (.ref a1), .unset, .unset, .unset] [.ref a2] := H74
  have H75 : Hr x b_at Z EL1 12 32 h2 [] 118 #[.val (.int p0), .val (.int p1), .val (.int p2), .val (.int p3), .val (.int p4), .val (.int ki), .val (.ref (kd ks ki)), .val (.int lt), .val (.int ls), .val (.int t0), .val (.int t1), .val (.int s0), .val (.int s1), .val (.ref a1), .val (.ref a2), .unset, .unset] [] := H74.astore at_116
  obtain ⟨h3, E3, ⟨X3, D3, U3⟩, H76⟩ := H75.new (w44 hw) (w45 hw) (w46 hw) at_118 (by first | decide | (simp [b_at, Bx.R]; done) | (simp [b_at, Bx.R]; omega)) (by first | decide | (simp [b_at, Bx.R]; done) | (simp [b_at, Bx.R]; omega))
  obtain ⟨tk, g_tk⟩ : ∃ z, z = h2.size := ⟨_, rfl⟩
  rw [← g_tk] at X3 D3 U3 H76
  have H76 : Hr x b_at Z EL1 13 35 h3 [tk] 121 #[.val (.int p0), .val (.int p1), .val (.int p2), .val (.int p3), .val (.int p4), .val (.int ki), .val (.ref (kd ks ki)), .val (.int lt), .val (.int ls), .val (.int t0), .val (.int t1), .val (.int s0), .val (.int s1), .val (.ref a1), .val (.ref a2), .unset, .unset] [.ref tk] := H76
  have H77 : Hr x b_at Z EL1 13 35 h3 [tk] 122 #[.val (.int p0), .val (.int p1), .val (.int p2), .val (.int p3), .val (.int p4), .val (.int ki), .val (.ref (kd ks ki)), .val (.int lt), .val (.int ls), .val (.int t0), .val (.int t1), .val (.int s0), .val (.int s1), .val (.ref a1), .val (.ref a2), .unset, .unset] [.ref tk, .ref tk] := H76.dup at_121
  have H78 : Hr x b_at Z EL1 13 35 h3 [tk] 124 #[.val (.int p0), .val (.int p1), .val (.int p2), .val (.int p3), .val (.int p4), .val (.int ki), .val (.ref (kd ks ki)), .val (.int lt), .val (.int ls), .val (.int t0), .val (.int t1), .val (.int s0), .val (.int s1), .val (.ref a1), .val (.ref a2), .unset, .unset] [.ref (kd ks ki), .ref tk, .ref tk] := H77.aload at_122
  have H79 : Hr x b_at Z EL1 13 35 h3 [tk] 126 #[.val (.int p0), .val (.int p1), .val (.int p2), .val (.int p3), .val (.int p4), .val (.int ki), .val (.ref (kd ks ki)), .val (.int lt), .val (.int ls), .val (.int t0), .val (.int t1), .val (.int s0), .val (.int s1), .val (.ref a1), .val (.ref a2), .unset, .unset] [.ref a1, .ref (kd ks ki), .ref tk, .ref tk] := H78.aload at_124
  have H80 : Hr x b_at Z EL1 13 35 h3 [tk] 128 #[.val (.int p0), .val (.int p1), .val (.int p2), .val (.int p3), .val (.int p4), .val (.int ki), .val (.ref (kd ks ki)), .val (.int lt), .val (.int ls), .val (.int t0), .val (.int t1), .val (.int s0), .val (.int s1), .val (.ref a1), .val (.ref a2), .unset, .unset] [.int p4, .ref a1, .ref (kd ks ki), .ref tk, .ref tk] := H79.iload at_126
  have T0 : Fld Z h3 tk "com/example/strict_mapper/strictmapper/query/JpqlLexer$Token" "kind" "Lcom/example/strict_mapper/strictmapper/query/JpqlLexer$Kind;" (.null) := D3 (Or.inr (w57 hw)) (ty := .object "com/example/strict_mapper/strictmapper/query/JpqlLexer$Kind") (by decide)
  have T1 : Fld Z h3 tk "com/example/strict_mapper/strictmapper/query/JpqlLexer$Token" "text" "Ljava/lang/String;" (.null) := D3 (Or.inr (w59 hw)) (ty := .object "java/lang/String") (by decide)
  have T2 : Fld Z h3 tk "com/example/strict_mapper/strictmapper/query/JpqlLexer$Token" "index" "I" (.int 0) := D3 (Or.inr (w61 hw)) (ty := .int) (by decide)
  obtain ⟨_, h4, _, ⟨rfl, rfl, X4, G0, G1, G2⟩, K4, H81⟩ := H80.callI (argsL := [.ref (kd ks ki), .ref a1, .int p4]) (rest := [.ref tk]) (Wr := 1) (a := tk) (ct_tini hw x.l x.nar x.kn hnar h3 tk (kd ks ki) a1 p4 X3 T0 T1 T2) (sub1 (by simp)) (w47 hw) (w48 hw) (w46 hw) (w49 hw) at_128 pd_tini rfl (hf := by first | decide | (simp [b_at, Bx.R]; done) | (simp [b_at, Bx.R]; omega)) (hl := by first | decide | (simp [b_at, Bx.R]; done) | (simp [b_at, Bx.R]; omega)) (hc := by first | decide | (simp [b_at, Bx.R]; done) | (simp [b_at, Bx.R]; omega)) (hs := by first | decide | (simp [b_at, Bx.R]; done) | (simp [b_at, Bx.R]; omega))
  have H81 : Hr x b_at Z EL1 13 35 h4 [tk] 131 #[.val (.int p0), .val (.int p1), .val (.int p2), .val (.int p3), .val (.int p4), .val (.int ki), .val (.ref (kd ks ki)), .val (.int lt), .val (.int ls), .val (.int t0), .val (.int t1), .val (.int s0), .val (.int s1), .val (.ref a1), .val (.ref a2), .unset, .unset] [.ref tk] := H81
  have S1a := (S1.keep K2 nin0 nin0).ext E3
  have S2a := S2.ext E3
  have S1b := S1a.keep K4 (ninS (neN (by have := (S1.keep K2 nin0 nin0).lt; omega)) nin0) (ninS (neN (by have := (S1.keep K2 nin0 nin0).lt'; omega)) nin0)
  have S2b := S2a.keep K4 (ninS (neN (by have := S2.lt; omega)) nin0) (ninS (neN (by have := S2.lt'; omega)) nin0)
  have hse := sOf_eq m1 m2 r0 r1 hs0 hs1
  have H82 : Hr x b_at Z EL1 13 35 h4 [tk] 133 #[.val (.int p0), .val (.int p1), .val (.int p2), .val (.int p3), .val (.int p4), .val (.int ki), .val (.ref (kd ks ki)), .val (.int lt), .val (.int ls), .val (.int t0), .val (.int t1), .val (.int s0), .val (.int s1), .val (.ref a1), .val (.ref a2), .val (.ref tk), .unset] [] := H81.astore at_131
  have H83 : Hr x b_at Z EL1 13 35 h4 [tk] 135 #[.val (.int p0), .val (.int p1), .val (.int p2), .val (.int p3), .val (.int p4), .val (.int ki), .val (.ref (kd ks ki)), .val (.int lt), .val (.int ls), .val (.int t0), .val (.int t1), .val (.int s0), .val (.int s1), .val (.ref a1), .val (.ref a2), .val (.ref tk), .unset] [.int ki] := H82.iload at_133
  have H84 : Hr x b_at Z EL1 13 35 h4 [tk] 136 #[.val (.int p0), .val (.int p1), .val (.int p2), .val (.int p3), .val (.int p4), .val (.int ki), .val (.ref (kd ks ki)), .val (.int lt), .val (.int ls), .val (.int t0), .val (.int t1), .val (.int s0), .val (.int s1), .val (.ref a1), .val (.ref a2), .val (.ref tk), .unset] [.int (5 : Int32), .int ki] := H83.iconst at_135
  obtain ⟨ev, hev, H85⟩ : ∃ ev : Int32, ev = (if ki = 5 ∧ (sOf lt t0 t1).map b8 = (sOf ls s0 s1).map b8 then 1 else 0) ∧ Hr x b_at Z EL1 13 35 h4 [tk] 177 #[.val (.int p0), .val (.int p1), .val (.int p2), .val (.int p3), .val (.int p4), .val (.int ki), .val (.ref (kd ks ki)), .val (.int lt), .val (.int ls), .val (.int t0), .val (.int t1), .val (.int s0), .val (.int s1), .val (.ref a1), .val (.ref a2), .val (.ref tk), .unset] [.int ev] := by
    by_cases q5 : ki = 5
    · have z85 := q5
      have H86 : Hr x b_at Z EL1 13 35 h4 [tk] 139 #[.val (.int p0), .val (.int p1), .val (.int p2), .val (.int p3), .val (.int p4), .val (.int ki), .val (.ref (kd ks ki)), .val (.int lt), .val (.int ls), .val (.int t0), .val (.int t1), .val (.int s0), .val (.int s1), .val (.ref a1), .val (.ref a2), .val (.ref tk), .unset] [] := H84.icmpF at_136 (XT.ii_ne_f q5)
      have H87 : Hr x b_at Z EL1 13 35 h4 [tk] 141 #[.val (.int p0), .val (.int p1), .val (.int p2), .val (.int p3), .val (.int p4), .val (.int ki), .val (.ref (kd ks ki)), .val (.int lt), .val (.int ls), .val (.int t0), .val (.int t1), .val (.int s0), .val (.int s1), .val (.ref a1), .val (.ref a2), .val (.ref tk), .unset] [.int lt] := H86.iload at_139
      have H88 : Hr x b_at Z EL1 13 35 h4 [tk] 143 #[.val (.int p0), .val (.int p1), .val (.int p2), .val (.int p3), .val (.int p4), .val (.int ki), .val (.ref (kd ks ki)), .val (.int lt), .val (.int ls), .val (.int t0), .val (.int t1), .val (.int s0), .val (.int s1), .val (.ref a1), .val (.ref a2), .val (.ref tk), .unset] [.int ls, .int lt] := H87.iload at_141
      by_cases ql : lt = ls
      · have z88 := ql
        have H89 : Hr x b_at Z EL1 13 35 h4 [tk] 146 #[.val (.int p0), .val (.int p1), .val (.int p2), .val (.int p3), .val (.int p4), .val (.int ki), .val (.ref (kd ks ki)), .val (.int lt), .val (.int ls), .val (.int t0), .val (.int t1), .val (.int s0), .val (.int s1), .val (.ref a1), .val (.ref a2), .val (.ref tk), .unset] [] := H88.icmpF at_143 (XT.ii_ne_f ql)
        have H90 : Hr x b_at Z EL1 13 35 h4 [tk] 148 #[.val (.int p0), .val (.int p1), .val (.int p2), .val (.int p3), .val (.int p4), .val (.int ki), .val (.ref (kd ks ki)), .val (.int lt), .val (.int ls), .val (.int t0), .val (.int t1), .val (.int s0), .val (.int s1), .val (.ref a1), .val (.ref a2), .val (.ref tk), .unset] [.int lt] := H89.iload at_146
        have H91 : Hr x b_at Z EL1 13 35 h4 [tk] 149 #[.val (.int p0), .val (.int p1), .val (.int p2), .val (.int p3), .val (.int p4), .val (.int ki), .val (.ref (kd ks ki)), .val (.int lt), .val (.int ls), .val (.int t0), .val (.int t1), .val (.int s0), .val (.int s1), .val (.ref a1), .val (.ref a2), .val (.ref tk), .unset] [.int (1 : Int32), .int lt] := H90.iconst at_148
        by_cases qa : lt < 1
        · have z91 := qa
          have qb : lt < 2 := by rw [Int32.lt_iff_toInt_lt] at qa ⊢; have e1 : (1 : Int32).toInt = 1 := (by decide); have e2 : (2 : Int32).toInt = 2 := (by decide); omega
          have H92 : Hr x b_at Z EL1 13 35 h4 [tk] 159 #[.val (.int p0), .val (.int p1), .val (.int p2), .val (.int p3), .val (.int p4), .val (.int ki), .val (.ref (kd ks ki)), .val (.int lt), .val (.int ls), .val (.int t0), .val (.int t1), .val (.int s0), .val (.int s1), .val (.ref a1), .val (.ref a2), .val (.ref tk), .unset] [] := H91.icmpT at_149 (XT.ii_lt_t qa)
          have H93 : Hr x b_at Z EL1 13 35 h4 [tk] 161 #[.val (.int p0), .val (.int p1), .val (.int p2), .val (.int p3), .val (.int p4), .val (.int ki), .val (.ref (kd ks ki)), .val (.int lt), .val (.int ls), .val (.int t0), .val (.int t1), .val (.int s0), .val (.int s1), .val (.ref a1), .val (.ref a2), .val (.ref tk), .unset] [.int lt] := H92.iload at_159
          have H94 : Hr x b_at Z EL1 13 35 h4 [tk] 162 #[.val (.int p0), .val (.int p1), .val (.int p2), .val (.int p3), .val (.int p4), .val (.int ki), .val (.ref (kd ks ki)), .val (.int lt), .val (.int ls), .val (.int t0), .val (.int t1), .val (.int s0), .val (.int s1), .val (.ref a1), .val (.ref a2), .val (.ref tk), .unset] [.int (2 : Int32), .int lt] := H93.iconst at_161
          have H95 : Hr x b_at Z EL1 13 35 h4 [tk] 172 #[.val (.int p0), .val (.int p1), .val (.int p2), .val (.int p3), .val (.int p4), .val (.int ki), .val (.ref (kd ks ki)), .val (.int lt), .val (.int ls), .val (.int t0), .val (.int t1), .val (.int s0), .val (.int s1), .val (.ref a1), .val (.ref a2), .val (.ref tk), .unset] [] := H94.icmpT at_162 (XT.ii_lt_t qb)
          have H96 : Hr x b_at Z EL1 13 35 h4 [tk] 173 #[.val (.int p0), .val (.int p1), .val (.int p2), .val (.int p3), .val (.int p4), .val (.int ki), .val (.ref (kd ks ki)), .val (.int lt), .val (.int ls), .val (.int t0), .val (.int t1), .val (.int s0), .val (.int s1), .val (.ref a1), .val (.ref a2), .val (.ref tk), .unset] [.int (1 : Int32)] := H95.iconst at_172
          have H97 : Hr x b_at Z EL1 13 35 h4 [tk] 177 #[.val (.int p0), .val (.int p1), .val (.int p2), .val (.int p3), .val (.int p4), .val (.int ki), .val (.ref (kd ks ki)), .val (.int lt), .val (.int ls), .val (.int t0), .val (.int t1), .val (.int s0), .val (.int s1), .val (.ref a1), .val (.ref a2), .val (.ref tk), .unset] [.int (1 : Int32)] := H96.goto at_173
          exact ⟨_, (by rw [if_pos ⟨q5, hse.mpr ⟨ql, Or.inl qa, Or.inl qb⟩⟩]), H97⟩
        · have z97 := qa
          have H98 : Hr x b_at Z EL1 13 35 h4 [tk] 152 #[.val (.int p0), .val (.int p1), .val (.int p2), .val (.int p3), .val (.int p4), .val (.int ki), .val (.ref (kd ks ki)), .val (.int lt), .val (.int ls), .val (.int t0), .val (.int t1), .val (.int s0), .val (.int s1), .val (.ref a1), .val (.ref a2), .val (.ref tk), .unset] [] := H91.icmpF at_149 (XT.ii_lt_f qa)
          have H99 : Hr x b_at Z EL1 13 35 h4 [tk] 154 #[.val (.int p0), .val (.int p1), .val (.int p2), .val (.int p3), .val (.int p4), .val (.int ki), .val (.ref (kd ks ki)), .val (.int lt), .val (.int ls), .val (.int t0), .val (.int t1), .val (.int s0), .val (.int s1), .val (.ref a1), .val (.ref a2), .val (.ref tk), .unset] [.int t0] := H98.iload at_152
          have H100 : Hr x b_at Z EL1 13 35 h4 [tk] 156 #[.val (.int p0), .val (.int p1), .val (.int p2), .val (.int p3), .val (.int p4), .val (.int ki), .val (.ref (kd ks ki)), .val (.int lt), .val (.int ls), .val (.int t0), .val (.int t1), .val (.int s0), .val (.int s1), .val (.ref a1), .val (.ref a2), .val (.ref tk), .unset] [.int s0, .int t0] := H99.iload at_154
          by_cases qt : t0 = s0
          · have z100 := qt
            have H101 : Hr x b_at Z EL1 13 35 h4 [tk] 159 #[.val (.int p0), .val (.int p1), .val (.int p2), .val (.int p3), .val (.int p4), .val (.int ki), .val (.ref (kd ks ki)), .val (.int lt), .val (.int ls), .val (.int t0), .val (.int t1), .val (.int s0), .val (.int s1), .val (.ref a1), .val (.ref a2), .val (.ref tk), .unset] [] := H100.icmpF at_156 (XT.ii_ne_f qt)
            have H102 : Hr x b_at Z EL1 13 35 h4 [tk] 161 #[.val (.int p0), .val (.int p1), .val (.int p2), .val (.int p3), .val (.int p4), .val (.int ki), .val (.ref (kd ks ki)), .val (.int lt), .val (.int ls), .val (.int t0), .val (.int t1), .val (.int s0), .val (.int s1), .val (.ref a1), .val (.ref a2), .val (.ref tk), .unset] [.int lt] := H101.iload at_159
            have H103 : Hr x b_at Z EL1 13 35 h4 [tk] 162 #[.val (.int p0), .val (.int p1), .val (.int p2), .val (.int p3), .val (.int p4), .val (.int ki), .val (.ref (kd ks ki)), .val (.int lt), .val (.int ls), .val (.int t0), .val (.int t1), .val (.int s0), .val (.int s1), .val (.ref a1), .val (.ref a2), .val (.ref tk), .unset] [.int (2 : Int32), .int lt] := H102.iconst at_161
            by_cases qb : lt < 2
            · have z103 := qb
              have H104 : Hr x b_at Z EL1 13 35 h4 [tk] 172 #[.val (.int p0), .val (.int p1), .val (.int p2), .val (.int p3), .val (.int p4), .val (.int ki), .val (.ref (kd ks ki)), .val (.int lt), .val (.int ls), .val (.int t0), .val (.int t1), .val (.int s0), .val (.int s1), .val (.ref a1), .val (.ref a2), .val (.ref tk), .unset] [] := H103.icmpT at_162 (XT.ii_lt_t qb)
              have H105 : Hr x b_at Z EL1 13 35 h4 [tk] 173 #[.val (.int p0), .val (.int p1), .val (.int p2), .val (.int p3), .val (.int p4), .val (.int ki), .val (.ref (kd ks ki)), .val (.int lt), .val (.int ls), .val (.int t0), .val (.int t1), .val (.int s0), .val (.int s1), .val (.ref a1), .val (.ref a2), .val (.ref tk), .unset] [.int (1 : Int32)] := H104.iconst at_172
              have H106 : Hr x b_at Z EL1 13 35 h4 [tk] 177 #[.val (.int p0), .val (.int p1), .val (.int p2), .val (.int p3), .val (.int p4), .val (.int ki), .val (.ref (kd ks ki)), .val (.int lt), .val (.int ls), .val (.int t0), .val (.int t1), .val (.int s0), .val (.int s1), .val (.ref a1), .val (.ref a2), .val (.ref tk), .unset] [.int (1 : Int32)] := H105.goto at_173
              exact ⟨_, (by rw [if_pos ⟨q5, hse.mpr ⟨ql, Or.inr qt, Or.inl qb⟩⟩]), H106⟩
            · have z106 := qb
              have H107 : Hr x b_at Z EL1 13 35 h4 [tk] 165 #[.val (.int p0), .val (.int p1), .val (.int p2), .val (.int p3), .val (.int p4), .val (.int ki), .val (.ref (kd ks ki)), .val (.int lt), .val (.int ls), .val (.int t0), .val (.int t1), .val (.int s0), .val (.int s1), .val (.ref a1), .val (.ref a2), .val (.ref tk), .unset] [] := H103.icmpF at_162 (XT.ii_lt_f qb)
              have H108 : Hr x b_at Z EL1 13 35 h4 [tk] 167 #[.val (.int p0), .val (.int p1), .val (.int p2), .val (.int p3), .val (.int p4), .val (.int ki), .val (.ref (kd ks ki)), .val (.int lt), .val (.int ls), .val (.int t0), .val (.int t1), .val (.int s0), .val (.int s1), .val (.ref a1), .val (.ref a2), .val (.ref tk), .unset] [.int t1] := H107.iload at_165
              have H109 : Hr x b_at Z EL1 13 35 h4 [tk] 169 #[.val (.int p0), .val (.int p1), .val (.int p2), .val (.int p3), .val (.int p4), .val (.int ki), .val (.ref (kd ks ki)), .val (.int lt), .val (.int ls), .val (.int t0), .val (.int t1), .val (.int s0), .val (.int s1), .val (.ref a1), .val (.ref a2), .val (.ref tk), .unset] [.int s1, .int t1] := H108.iload at_167
              by_cases qu : t1 = s1
              · have z109 := qu
                have H110 : Hr x b_at Z EL1 13 35 h4 [tk] 172 #[.val (.int p0), .val (.int p1), .val (.int p2), .val (.int p3), .val (.int p4), .val (.int ki), .val (.ref (kd ks ki)), .val (.int lt), .val (.int ls), .val (.int t0), .val (.int t1), .val (.int s0), .val (.int s1), .val (.ref a1), .val (.ref a2), .val (.ref tk), .unset] [] := H109.icmpF at_169 (XT.ii_ne_f qu)
                have H111 : Hr x b_at Z EL1 13 35 h4 [tk] 173 #[.val (.int p0), .val (.int p1), .val (.int p2), .val (.int p3), .val (.int p4), .val (.int ki), .val (.ref (kd ks ki)), .val (.int lt), .val (.int ls), .val (.int t0), .val (.int t1), .val (.int s0), .val (.int s1), .val (.ref a1), .val (.ref a2), .val (.ref tk), .unset] [.int (1 : Int32)] := H110.iconst at_172
                have H112 : Hr x b_at Z EL1 13 35 h4 [tk] 177 #[.val (.int p0), .val (.int p1), .val (.int p2), .val (.int p3), .val (.int p4), .val (.int ki), .val (.ref (kd ks ki)), .val (.int lt), .val (.int ls), .val (.int t0), .val (.int t1), .val (.int s0), .val (.int s1), .val (.ref a1), .val (.ref a2), .val (.ref tk), .unset] [.int (1 : Int32)] := H111.goto at_173
                exact ⟨_, (by rw [if_pos ⟨q5, hse.mpr ⟨ql, Or.inr qt, Or.inr qu⟩⟩]), H112⟩
              · have z112 := qu
                have H113 : Hr x b_at Z EL1 13 35 h4 [tk] 176 #[.val (.int p0), .val (.int p1), .val (.int p2), .val (.int p3), .val (.int p4), .val (.int ki), .val (.ref (kd ks ki)), .val (.int lt), .val (.int ls), .val (.int t0), .val (.int t1), .val (.int s0), .val (.int s1), .val (.ref a1), .val (.ref a2), .val (.ref tk), .unset] [] := H109.icmpT at_169 (XT.ii_ne_t qu)
                have H114 : Hr x b_at Z EL1 13 35 h4 [tk] 177 #[.val (.int p0), .val (.int p1), .val (.int p2), .val (.int p3), .val (.int p4), .val (.int ki), .val (.ref (kd ks ki)), .val (.int lt), .val (.int ls), .val (.int t0), .val (.int t1), .val (.int s0), .val (.int s1), .val (.ref a1), .val (.ref a2), .val (.ref tk), .unset] [.int (0 : Int32)] := H113.iconst at_176
                exact ⟨_, (by rw [if_neg fun q => (hse.mp q.2).2.2.elim qb qu]), H114⟩
          · have z114 := qt
            have H115 : Hr x b_at Z EL1 13 35 h4 [tk] 176 #[.val (.int p0), .val (.int p1), .val (.int p2), .val (.int p3), .val (.int p4), .val (.int ki), .val (.ref (kd ks ki)), .val (.int lt), .val (.int ls), .val (.int t0), .val (.int t1), .val (.int s0), .val (.int s1), .val (.ref a1), .val (.ref a2), .val (.ref tk), .unset] [] := H100.icmpT at_156 (XT.ii_ne_t qt)
            have H116 : Hr x b_at Z EL1 13 35 h4 [tk] 177 #[.val (.int p0), .val (.int p1), .val (.int p2), .val (.int p3), .val (.int p4), .val (.int ki), .val (.ref (kd ks ki)), .val (.int lt), .val (.int ls), .val (.int t0), .val (.int t1), .val (.int s0), .val (.int s1), .val (.ref a1), .val (.ref a2), .val (.ref tk), .unset] [.int (0 : Int32)] := H115.iconst at_176
            exact ⟨_, (by rw [if_neg fun q => (hse.mp q.2).2.1.elim qa qt]), H116⟩
      · have z116 := ql
        have H117 : Hr x b_at Z EL1 13 35 h4 [tk] 176 #[.val (.int p0), .val (.int p1), .val (.int p2), .val (.int p3), .val (.int p4), .val (.int ki), .val (.ref (kd ks ki)), .val (.int lt), .val (.int ls), .val (.int t0), .val (.int t1), .val (.int s0), .val (.int s1), .val (.ref a1), .val (.ref a2), .val (.ref tk), .unset] [] := H88.icmpT at_143 (XT.ii_ne_t ql)
        have H118 : Hr x b_at Z EL1 13 35 h4 [tk] 177 #[.val (.int p0), .val (.int p1), .val (.int p2), .val (.int p3), .val (.int p4), .val (.int ki), .val (.ref (kd ks ki)), .val (.int lt), .val (.int ls), .val (.int t0), .val (.int t1), .val (.int s0), .val (.int s1), .val (.ref a1), .val (.ref a2), .val (.ref tk), .unset] [.int (0 : Int32)] := H117.iconst at_176
        exact ⟨_, (by rw [if_neg fun q => ql (hse.mp q.2).1]), H118⟩
    · have z118 := q5
      have H119 : Hr x b_at Z EL1 13 35 h4 [tk] 176 #[.val (.int p0), .val (.int p1), .val (.int p2), .val (.int p3), .val (.int p4), .val (.int ki), .val (.ref (kd ks ki)), .val (.int lt), .val (.int ls), .val (.int t0), .val (.int t1), .val (.int s0), .val (.int s1), .val (.ref a1), .val (.ref a2), .val (.ref tk), .unset] [] := H84.icmpT at_136 (XT.ii_ne_t q5)
      have H120 : Hr x b_at Z EL1 13 35 h4 [tk] 177 #[.val (.int p0), .val (.int p1), .val (.int p2), .val (.int p3), .val (.int p4), .val (.int ki), .val (.ref (kd ks ki)), .val (.int lt), .val (.int ls), .val (.int t0), .val (.int t1), .val (.int s0), .val (.int s1), .val (.ref a1), .val (.ref a2), .val (.ref tk), .unset] [.int (0 : Int32)] := H119.iconst at_176
      exact ⟨_, (by rw [if_neg fun q => q5 q.1]), H120⟩
  have H121 : Hr x b_at Z EL1 13 35 h4 [tk] 179 #[.val (.int p0), .val (.int p1), .val (.int p2), .val (.int p3), .val (.int p4), .val (.int ki), .val (.ref (kd ks ki)), .val (.int lt), .val (.int ls), .val (.int t0), .val (.int t1), .val (.int s0), .val (.int s1), .val (.ref a1), .val (.ref a2), .val (.ref tk), .val (.int ev)] [] := H85.istore at_177
  have H122 : Hr x b_at Z EL1 13 35 h4 [tk] 181 #[.val (.int p0), .val (.int p1), .val (.int p2), .val (.int p3), .val (.int p4), .val (.int ki), .val (.ref (kd ks ki)), .val (.int lt), .val (.int ls), .val (.int t0), .val (.int t1), .val (.int s0), .val (.int s1), .val (.ref a1), .val (.ref a2), .val (.ref tk), .val (.int ev)] [.ref tk] := H121.aload at_179
  have H123 : Hr x b_at Z EL1 13 35 h4 [tk] 183 #[.val (.int p0), .val (.int p1), .val (.int p2), .val (.int p3), .val (.int p4), .val (.int ki), .val (.ref (kd ks ki)), .val (.int lt), .val (.int ls), .val (.int t0), .val (.int t1), .val (.int s0), .val (.int s1), .val (.ref a1), .val (.ref a2), .val (.ref tk), .val (.int ev)] [.ref a2, .ref tk] := H122.aload at_181
  obtain ⟨_, h5, _, ⟨rfl, rfl, e5⟩, K5, H124⟩ := H123.callV (argsL := [.ref a2]) (rest := []) (Wr := 0) (a := tk) (ct_isym hw x.l x.nar x.kn hnar h4 tk (kd ks ki) a1 u1 a2 u2 (ks.getD 5 0) _ _ G0 G1 S1b S2b Ks.2.2.2.2.2.1 cz O hcz) sub0 X4 (w62 hw) (w63 hw) (w65 hw) (w65 hw) (w64 hw) (w46 hw) (w66 hw) at_183 pd_isym rfl (hf := by first | decide | (simp [b_at, Bx.R]; done) | (simp [b_at, Bx.R]; omega)) (hl := by first | decide | (simp [b_at, Bx.R]; done) | (simp [b_at, Bx.R]; omega)) (hc := by first | decide | (simp [b_at, Bx.R]; done) | (simp [b_at, Bx.R]; omega)) (hs := by first | decide | (simp [b_at, Bx.R]; done) | (simp [b_at, Bx.R]; omega))
  rw [e5] at H124
  have H124 : Hr x b_at Z EL1 13 35 h4 [tk] 186 #[.val (.int p0), .val (.int p1), .val (.int p2), .val (.int p3), .val (.int p4), .val (.int ki), .val (.ref (kd ks ki)), .val (.int lt), .val (.int ls), .val (.int t0), .val (.int t1), .val (.int s0), .val (.int s1), .val (.ref a1), .val (.ref a2), .val (.ref tk), .val (.int ev)] [.int (if kd ks ki = ks.getD 5 0 ∧ (sOf lt t0 t1).map b8 = (sOf ls s0 s1).map b8 then 1 else 0)] := H124
  have hfin : (if kd ks ki = ks.getD 5 0 ∧ (sOf lt t0 t1).map b8 = (sOf ls s0 s1).map b8 then (1 : Int32) else 0) = ev := by rw [hev]; simp only [kd_iff hD ki]
  have H125 : Hr x b_at Z EL1 13 35 h4 [tk] 188 #[.val (.int p0), .val (.int p1), .val (.int p2), .val (.int p3), .val (.int p4), .val (.int ki), .val (.ref (kd ks ki)), .val (.int lt), .val (.int ls), .val (.int t0), .val (.int t1), .val (.int s0), .val (.int s1), .val (.ref a1), .val (.ref a2), .val (.ref tk), .val (.int ev)] [.int ev, .int (if kd ks ki = ks.getD 5 0 ∧ (sOf lt t0 t1).map b8 = (sOf ls s0 s1).map b8 then 1 else 0)] := H124.iload at_186
  have H126 : Hr x b_at Z EL1 13 35 h4 [tk] 191 #[.val (.int p0), .val (.int p1), .val (.int p2), .val (.int p3), .val (.int p4), .val (.int ki), .val (.ref (kd ks ki)), .val (.int lt), .val (.int ls), .val (.int t0), .val (.int t1), .val (.int s0), .val (.int s1), .val (.ref a1), .val (.ref a2), .val (.ref tk), .val (.int ev)] [] := H125.icmpF at_188 (XT.ii_ne_f hfin)
  have H127 : Hr x b_at Z EL1 13 35 h4 [tk] 192 #[.val (.int p0), .val (.int p1), .val (.int p2), .val (.int p3), .val (.int p4), .val (.int ki), .val (.ref (kd ks ki)), .val (.int lt), .val (.int ls), .val (.int t0), .val (.int t1), .val (.int s0), .val (.int s1), .val (.ref a1), .val (.ref a2), .val (.ref tk), .val (.int ev)] [.int (1 : Int32)] := H126.iconst at_191
  have H128 : Hr x b_at Z EL1 13 35 h4 [tk] 196 #[.val (.int p0), .val (.int p1), .val (.int p2), .val (.int p3), .val (.int p4), .val (.int ki), .val (.ref (kd ks ki)), .val (.int lt), .val (.int ls), .val (.int t0), .val (.int t1), .val (.int s0), .val (.int s1), .val (.ref a1), .val (.ref a2), .val (.ref tk), .val (.int ev)] [.int (1 : Int32)] := H127.goto at_192
  exact H128.finZ at_196 (t := .boolean) (by first | rfl | decide) ⟨rfl, rfl⟩ sub0
set_option maxRecDepth 65536 in
set_option maxHeartbeats 4000000 in
theorem comes_1 {Post : Tables → Env → Array Value → State → Outcome → State → Prop} (hpost : ∀ tb e args s v u, (limb_1_1.after args s (.returned v) u = true ∧ limb_1_2.after args s (.returned v) u = true ∧ True) → FramedW s (.returned v) u (Jvm.fieldLocs frame_1_writes args s ++ Jvm.arrayLocs frame_1_arrays args s ++ Jvm.staticLocs frame_1_statics s) 24 1152 → Post tb e args s (.returned v) u) :
    ArmFor flags0 classFile x code maxLocals ret World_1 tables_1 room_1 Calls_1 rest_1 Pre_1 Post := by
  intro l hfl _ _ p e ha hc hk s m args below hf hA hF happ hP
  obtain ⟨hcalls, hrest, hpre⟩ := hP
  obtain ⟨-, -, -, hnamed, -, -, -, hat⟩ := (Spec.applies_iff hf).mp happ
  obtain ⟨hg, hn⟩ := and_e (Cond.before_iff.mp (show (Jvm.Cond.and given_1 narrow_1).before args s = true from hpre))
  obtain ⟨g0, hg⟩ := and_e hg
  obtain ⟨g1, hg⟩ := and_e hg
  obtain ⟨g2, hg⟩ := and_e hg
  obtain ⟨g3, hg⟩ := and_e hg
  obtain ⟨g4, hg⟩ := and_e hg
  obtain ⟨v0, v1, v2, v3, v4, rfl⟩ : ∃ v0 v1 v2 v3 v4 : Value, args = #[v0, v1, v2, v3, v4] := by
    have hs : args.size = 5 := by simpa [Cond.value, given_1] using g0
    obtain ⟨L⟩ := args
    match L, hs with
    | [v0, v1, v2, v3, v4], _ => exact ⟨v0, v1, v2, v3, v4, rfl⟩
  have hw := fun d (hd : d ∈ tables_1) => atoms_spec (ws := Jvm.Cond.code x code maxLocals ret :: tables_1) hat d (List.mem_cons_of_mem _ hd)
  obtain ⟨hsets, hown0⟩ := atoms_of _ (rest_1_c_eq ▸ (show rest_1_c.before _ s = true from hrest))
  have n5 := not_v (Cond.before_iff.mp (hsets _ (List.mem_of_getElem? (i := 2) rfl)))
  obtain ⟨i0, e0⟩ := is_v g1
  obtain rfl : v0 = (.int i0) := Option.some.inj e0
  obtain ⟨i1, e1⟩ := is_v g2
  obtain rfl : v1 = (.int i1) := Option.some.inj e1
  obtain ⟨i2, e2⟩ := is_v g3
  obtain rfl : v2 = (.int i2) := Option.some.inj e2
  obtain ⟨i3, e3⟩ := is_v g4
  obtain rfl : v3 = (.int i3) := Option.some.inj e3
  obtain ⟨i4, e4⟩ := is_v hg
  obtain rfl : v4 = (.int i4) := Option.some.inj e4
  obtain ⟨cz, ecz⟩ := is_v (Cond.before_iff.mp (hsets _ (List.mem_of_getElem? (i := 1) rfl)))
  have O : Sta s s.heap "java/lang/String" "COMPACT_STRINGS" "Z" (.int cz) := Sta.start ecz (Or.inl (hsets _ (List.mem_of_getElem? (i := 0) rfl)))
  have hcz : ¬ (cz = (0 : Int32)) := gotF (Cond.eq_ints ecz (Term.int_eval (0))) n5
  obtain ⟨c0, hn⟩ := and_e hn
  obtain ⟨c1, hn⟩ := and_e hn
  obtain ⟨c2, hn⟩ := and_e hn
  obtain ⟨c3, hn⟩ := and_e hn
  obtain ⟨c4, hn⟩ := and_e hn
  obtain ⟨c5, hn⟩ := and_e hn
  obtain ⟨c6, hn⟩ := and_e hn
  obtain ⟨c7, hn⟩ := and_e hn
  obtain ⟨c8, hn⟩ := and_e hn
  obtain ⟨c9, hn⟩ := and_e hn
  obtain ⟨c10, hn⟩ := and_e hn
  obtain ⟨c11, hn⟩ := and_e hn
  obtain ⟨c12, hn⟩ := and_e hn
  have c13 := hn
  obtain ⟨kWORD, tWORD⟩ := exa_v c0
  have sWORD : Sta s s.heap "com/example/strict_mapper/strictmapper/query/JpqlLexer$Kind" "WORD" "Lcom/example/strict_mapper/strictmapper/query/JpqlLexer$Kind;" (.ref kWORD) := Sta.start tWORD (Or.inr ⟨(w6 hw), (w7 hw)⟩)
  obtain ⟨kSYMBOL, tSYMBOL⟩ := exa_v c1
  have sSYMBOL : Sta s s.heap "com/example/strict_mapper/strictmapper/query/JpqlLexer$Kind" "SYMBOL" "Lcom/example/strict_mapper/strictmapper/query/JpqlLexer$Kind;" (.ref kSYMBOL) := Sta.start tSYMBOL (Or.inr ⟨(w6 hw), (w68 hw)⟩)
  obtain ⟨kNAMED_PARAMETER, tNAMED_PARAMETER⟩ := exa_v c4
  have sNAMED_PARAMETER : Sta s s.heap "com/example/strict_mapper/strictmapper/query/JpqlLexer$Kind" "NAMED_PARAMETER" "Lcom/example/strict_mapper/strictmapper/query/JpqlLexer$Kind;" (.ref kNAMED_PARAMETER) := Sta.start tNAMED_PARAMETER (Or.inr ⟨(w6 hw), (w70 hw)⟩)
  obtain ⟨kSTRING, tSTRING⟩ := exa_v c6
  have sSTRING : Sta s s.heap "com/example/strict_mapper/strictmapper/query/JpqlLexer$Kind" "STRING" "Lcom/example/strict_mapper/strictmapper/query/JpqlLexer$Kind;" (.ref kSTRING) := Sta.start tSTRING (Or.inr ⟨(w6 hw), (w83 hw)⟩)
  obtain ⟨kEND, tEND⟩ := exa_v c8
  have sEND : Sta s s.heap "com/example/strict_mapper/strictmapper/query/JpqlLexer$Kind" "END" "Lcom/example/strict_mapper/strictmapper/query/JpqlLexer$Kind;" (.ref kEND) := Sta.start tEND (Or.inr ⟨(w6 hw), (w85 hw)⟩)
  obtain ⟨kNUMBER, tNUMBER⟩ := exa_v c10
  have sNUMBER : Sta s s.heap "com/example/strict_mapper/strictmapper/query/JpqlLexer$Kind" "NUMBER" "Lcom/example/strict_mapper/strictmapper/query/JpqlLexer$Kind;" (.ref kNUMBER) := Sta.start tNUMBER (Or.inr ⟨(w6 hw), (w87 hw)⟩)
  obtain ⟨kNUMBERED_PARAMETER, tNUMBERED_PARAMETER⟩ := exa_v c12
  have sNUMBERED_PARAMETER : Sta s s.heap "com/example/strict_mapper/strictmapper/query/JpqlLexer$Kind" "NUMBERED_PARAMETER" "Lcom/example/strict_mapper/strictmapper/query/JpqlLexer$Kind;" (.ref kNUMBERED_PARAMETER) := Sta.start tNUMBERED_PARAMETER (Or.inr ⟨(w6 hw), (w89 hw)⟩)
  have oWORD : Fld s s.heap kWORD "java/lang/Enum" "ordinal" "I" (.int 0) := Fld.start ((fld_at tWORD).symm.trans (eqv_i (Term.int_eval (0)) c2))
  have oSYMBOL : Fld s s.heap kSYMBOL "java/lang/Enum" "ordinal" "I" (.int 5) := Fld.start ((fld_at tSYMBOL).symm.trans (eqv_i (Term.int_eval (5)) c3))
  have oNAMED_PARAMETER : Fld s s.heap kNAMED_PARAMETER "java/lang/Enum" "ordinal" "I" (.int 3) := Fld.start ((fld_at tNAMED_PARAMETER).symm.trans (eqv_i (Term.int_eval (3)) c5))
  have oSTRING : Fld s s.heap kSTRING "java/lang/Enum" "ordinal" "I" (.int 1) := Fld.start ((fld_at tSTRING).symm.trans (eqv_i (Term.int_eval (1)) c7))
  have oEND : Fld s s.heap kEND "java/lang/Enum" "ordinal" "I" (.int 6) := Fld.start ((fld_at tEND).symm.trans (eqv_i (Term.int_eval (6)) c9))
  have oNUMBER : Fld s s.heap kNUMBER "java/lang/Enum" "ordinal" "I" (.int 2) := Fld.start ((fld_at tNUMBER).symm.trans (eqv_i (Term.int_eval (2)) c11))
  have oNUMBERED_PARAMETER : Fld s s.heap kNUMBERED_PARAMETER "java/lang/Enum" "ordinal" "I" (.int 4) := Fld.start ((fld_at tNUMBERED_PARAMETER).symm.trans (eqv_i (Term.int_eval (4)) c13))
  have hCH : CHv s EL1 s.vm s.heap := CHv.start (ew hw) (fun p hp => hcalls.1 p hp) (hsets _ (List.mem_of_getElem? (i := 2) rfl)) (w30 hw) (w12 hw)
  have Ks : Kinds s [kWORD, kSTRING, kNUMBER, kNAMED_PARAMETER, kNUMBERED_PARAMETER, kSYMBOL, kEND] := ⟨sWORD, sSTRING, sNUMBER, sNAMED_PARAMETER, sNUMBERED_PARAMETER, sSYMBOL, sEND⟩
  have hD : ∀ j ∈ ([0, 1, 2, 3, 4, 6] : List Nat), ([kWORD, kSTRING, kNUMBER, kNAMED_PARAMETER, kNUMBERED_PARAMETER, kSYMBOL, kEND] : List Addr).getD j 0 ≠ ([kWORD, kSTRING, kNUMBER, kNAMED_PARAMETER, kNUMBERED_PARAMETER, kSYMBOL, kEND] : List Addr).getD 5 0 := fun j hj => by
    simp only [List.mem_cons, List.not_mem_nil, or_false] at hj
    rcases hj with rfl | rfl | rfl | rfl | rfl | rfl
    · exact oWORD.ne oSYMBOL (by decide)
    · exact oSTRING.ne oSYMBOL (by decide)
    · exact oNUMBER.ne oSYMBOL (by decide)
    · exact oNAMED_PARAMETER.ne oSYMBOL (by decide)
    · exact oNUMBERED_PARAMETER.ne oSYMBOL (by decide)
    · exact oEND.ne oSYMBOL (by decide)
  obtain ⟨n, o, h1, h2, h3, _, L, sn, rfl, ⟨rfl, -⟩, -, -, N, -, -, hq⟩ := ct_law hw l false false rfl s.heap i0 i1 i2 i3 i4 _ Ks hD cz O hcz tables_1 p e ha hc hk s m _ below hf ((Spec.applies_iff_loose hf).mp happ).1 ⟨rfl, State.Warmed39.refl s, rfl, hCH, Ext.rfl' _, fun _ q => nomatch q⟩ (fun q => nomatch q)
  refine ⟨n, _, h1, h2, h3, hpost _ _ _ _ _ _ ⟨Cond.after_iff.mpr rfl, Cond.after_iff.mpr (eq_i res_at (Term.int_eval (1)) rfl), trivial⟩ ⟨hq.1, hq.2.1, hq.2.2.1, (hq.2.2.2.sift fun y hy => Or.inr (N y hy)).mono (by decide) (by decide)⟩⟩
theorem main_1_1 : Claimed_1_1 := comes_1 fun _ _ _ _ _ _ h hF => ⟨h.1, hF⟩
theorem main_1_2 : Claimed_1_2 := comes_1 fun _ _ _ _ _ _ h hF => ⟨h.2.1, hF⟩
end Jvm.Pilot.@@N@@
namespace Jvm.Pilot.@@N@@
open Jvm Jvm.ClassFile Sem Op Lib Jvm.Free Jvm.Stand Jvm.Pilot.@@N@@.Jvm.D
/-! MADE BY PROGRAM (witnessworld.py) out of the Statement's table words and the real class files: 23 classes; the members and pool entries that the words name. The judged class is class 1, her method 3. -/
namespace start1
open Jvm.ClassFile
def u (s : String) : CpInfo := .utf8 (stringToUtf16 s)
/-- a pool by its gaps: so many unusable entries, then the entry; so many at the end -/
def gap : Nat → List CpInfo → List CpInfo
  | 0, r => r
  | n + 1, r => .unusable :: gap n r
def poolList (es : List (Nat × CpInfo)) (last : Nat) : List CpInfo := es.foldr (fun e r => gap e.1 (e.2 :: r)) (gap last [])
def pool (es : List (Nat × CpInfo)) (last : Nat) : Array CpInfo := ⟨poolList es last⟩
def fileOf (pool : Array CpInfo) (this : Nat) (attrs : Array Attribute := #[]) (ms : Array MethodInfo := #[]) (fl : Nat := 33) (sup : Nat := 0) (ifs : Array Nat := #[]) (fds : Array FieldInfo := #[]) : ClassFile where
  minorVersion := 0
  majorVersion := 65
  constantPool := pool
  accessFlags := fl
  thisClass := this
  superClass := sup
  interfaces := ifs
  fields := fds
  methods := ms
  attributes := attrs
def plain (name : String) (sup : Option ClassId) : Class where
  name := name
  kind := .ordinary
  loader := none
  accessFlags := 33
  super := sup
  interfaces := #[]
  cf := none
  fields := #[]
  methods := #[]
  instanceTypes := #[]
  staticTypes := #[]
  resolved := #[]
  callSites := []
  init := .initialized
  statics := none
  mirror := none

def pool0 : Array CpInfo := pool [(5, u "<init>"), (0, u "()V"), (1, .class_ 10), (1, u "java/lang/Object")] 113

def k0c0 : Code := { maxStack := 0, maxLocals := 1, code := object_method_1_code, exceptionTable := #[], attributes := #[] }
def k0m0 : Method := { name := "<init>", desc := "()V", sig := { parameters := [], returnType := none }, accessFlags := 1, code := some k0c0 }
/-- java/lang/Object -/
def k0 : Class := { plain "java/lang/Object" none with
  accessFlags := 33
  interfaces := #[]
  cf := some (fileOf pool0 8 #[] #[{ accessFlags := 1, nameIndex := 5, descriptorIndex := 6, attributes := #[] }] 33 0 #[] #[])
  fields := #[]
  methods := #[k0m0]
  instanceTypes := #[]
  staticTypes := #[]
  resolved := Array.replicate 124 none
  statics := none }

def pool1 : Array CpInfo := pool [(2, .class_ 4), (1, u "java/lang/Object"), (0, u "<init>"), (0, u "()V"), (0, .fieldref 8 9), (0, .class_ 10), (0, .nameAndType 11 12), (0, u "com/example/strict_mapper/strictmapper/query/JpqlLexer$Kind"), (0, u "WORD"), (0, u "Lcom/example/strict_mapper/strictmapper/query/JpqlLexer$Kind;"), (0, .fieldref 8 14), (0, .nameAndType 15 12), (0, u "STRING"), (0, .fieldref 8 17), (0, .nameAndType 18 12), (0, u "NUMBER"), (0, .fieldref 8 20), (0, .nameAndType 21 12), (0, u "NAMED_PARAMETER"), (0, .fieldref 8 23), (0, .nameAndType 24 12), (0, u "NUMBERED_PARAMETER"), (0, .fieldref 8 26), (0, .nameAndType 27 12), (0, u "SYMBOL"), (0, .fieldref 8 29), (0, .nameAndType 30 12), (0, u "END"), (0, .class_ 32), (0, u "java/lang/String"), (0, .methodref 31 34), (0, .nameAndType 5 35), (0, u "([C)V"), (0, .integer 2147483647), (0, .methodref 38 39), (0, .class_ 40), (0, .nameAndType 41 42), (0, u "com/example/strict_mapper/strictmapper/query/TokenIsSymbolPinLaw"), (0, u "kindOf"), (0, u "(I)Lcom/example/strict_mapper/strictmapper/query/JpqlLexer$Kind;"), (0, .methodref 38 44), (0, .nameAndType 45 46), (0, u "str"), (0, u "(ICC)Ljava/lang/String;"), (0, .class_ 48), (0, u "com/example/strict_mapper/strictmapper/query/JpqlLexer$Token"), (0, .methodref 47 50), (0, .nameAndType 5 51), (0, u "(Lcom/example/strict_mapper/strictmapper/query/JpqlLexer$Kind;Ljava/lang/String;I)V"), (0, .methodref 47 53), (0, .nameAndType 54 55), (0, u "isSymbol"), (0, u "(Ljava/lang/String;)Z"), (3, u "law"), (0, u "(IIIII)Z")] 7

def k1m0 : Method := { name := "<init>", desc := "()V", sig := { parameters := [], returnType := none }, accessFlags := 2, code := none }
def k1c1 : Code := { maxStack := 2, maxLocals := 1, code := method_2_code, exceptionTable := #[], attributes := #[] }
def k1m1 : Method := { name := "kindOf", desc := "(I)Lcom/example/strict_mapper/strictmapper/query/JpqlLexer$Kind;", sig := { parameters := [.int], returnType := some (.object "com/example/strict_mapper/strictmapper/query/JpqlLexer$Kind") }, accessFlags := 10, code := some k1c1 }
def k1c2 : Code := { maxStack := 6, maxLocals := 3, code := method_3_code, exceptionTable := #[], attributes := #[] }
def k1m2 : Method := { name := "str", desc := "(ICC)Ljava/lang/String;", sig := { parameters := [.int, .char, .char], returnType := some (.object "java/lang/String") }, accessFlags := 10, code := some k1c2 }
def k1c3 : Code := { maxStack := 5, maxLocals := 17, code := code, exceptionTable := #[], attributes := #[] }
def k1m3 : Method := { name := "law", desc := "(IIIII)Z", sig := { parameters := [.int, .int, .int, .int, .int], returnType := some .boolean }, accessFlags := 9, code := some k1c3 }
/-- com/example/strict_mapper/strictmapper/query/TokenIsSymbolPinLaw -/
def k1 : Class := { plain "com/example/strict_mapper/strictmapper/query/TokenIsSymbolPinLaw" (some 0) with
  accessFlags := 49
  interfaces := #[]
  cf := some (fileOf pool1 38 #[] #[{ accessFlags := 2, nameIndex := 5, descriptorIndex := 6, attributes := #[] }, { accessFlags := 10, nameIndex := 41, descriptorIndex := 42, attributes := #[] }, { accessFlags := 10, nameIndex := 45, descriptorIndex := 46, attributes := #[] }, { accessFlags := 9, nameIndex := 59, descriptorIndex := 60, attributes := #[] }] 49 2 #[] #[])
  fields := #[]
  methods := #[k1m0, k1m1, k1m2, k1m3]
  instanceTypes := #[]
  staticTypes := #[]
  resolved := Array.replicate 68 none
  statics := none }

def pool2 : Array CpInfo := pool [(1, .class_ 2), (0, u "java/lang/constant/Constable"), (0, .class_ 4), (0, u "java/lang/Object")] 6

/-- java/lang/constant/Constable -/
def k2 : Class := { plain "java/lang/constant/Constable" (some 0) with
  accessFlags := 1537
  interfaces := #[]
  cf := some (fileOf pool2 1 #[] #[] 1537 3 #[] #[])
  fields := #[]
  methods := #[]
  instanceTypes := #[]
  staticTypes := #[]
  resolved := Array.replicate 11 none
  statics := none }

def pool3 : Array CpInfo := pool [(1, .class_ 2), (0, u "java/lang/Comparable"), (0, .class_ 4), (0, u "java/lang/Object")] 7

/-- java/lang/Comparable -/
def k3 : Class := { plain "java/lang/Comparable" (some 0) with
  accessFlags := 1537
  interfaces := #[]
  cf := some (fileOf pool3 1 #[] #[] 1537 3 #[] #[])
  fields := #[]
  methods := #[]
  instanceTypes := #[]
  staticTypes := #[]
  resolved := Array.replicate 12 none
  statics := none }

def pool4 : Array CpInfo := pool [(1, .class_ 2), (0, u "java/io/Serializable"), (0, .class_ 4), (0, u "java/lang/Object")] 2

/-- java/io/Serializable -/
def k4 : Class := { plain "java/io/Serializable" (some 0) with
  accessFlags := 1537
  interfaces := #[]
  cf := some (fileOf pool4 1 #[] #[] 1537 3 #[] #[])
  fields := #[]
  methods := #[]
  instanceTypes := #[]
  staticTypes := #[]
  resolved := Array.replicate 7 none
  statics := none }

def pool5 : Array CpInfo := pool [(2, .class_ 4), (1, u "java/lang/Enum"), (0, u "name"), (0, u "Ljava/lang/String;"), (2, u "ordinal"), (0, u "I"), (1, .class_ 14), (1, u "java/lang/Object"), (4, u "hash"), (86, .class_ 108), (1, u "java/lang/Enum$EnumDesc"), (2, .class_ 112), (0, u "java/lang/constant/Constable"), (0, .class_ 114), (0, u "java/lang/Comparable"), (0, .class_ 116), (0, u "java/io/Serializable")] 87

/-- java/lang/Enum -/
def k5 : Class := { plain "java/lang/Enum" (some 0) with
  accessFlags := 1057
  interfaces := #[2, 3, 4]
  cf := some (fileOf pool5 2 #[.nestMembers #[106]] #[] 1057 12 #[111, 113, 115] #[{ accessFlags := 18, nameIndex := 5, descriptorIndex := 6, attributes := #[] }, { accessFlags := 18, nameIndex := 9, descriptorIndex := 10, attributes := #[] }, { accessFlags := 2, nameIndex := 19, descriptorIndex := 10, attributes := #[] }])
  fields := #[{ name := "name", type := (.object "java/lang/String"), accessFlags := 18, slot := 0, constantValue := 0 }, { name := "ordinal", type := .int, accessFlags := 18, slot := 1, constantValue := 0 }, { name := "hash", type := .int, accessFlags := 2, slot := 2, constantValue := 0 }]
  methods := #[]
  instanceTypes := #[(.object "java/lang/String"), .int, .int]
  staticTypes := #[]
  resolved := Array.replicate 204 none
  statics := none }

def pool6 : Array CpInfo := pool [(1, .class_ 2), (0, u "com/example/strict_mapper/strictmapper/query/JpqlLexer$Kind"), (2, u "WORD"), (0, u "Lcom/example/strict_mapper/strictmapper/query/JpqlLexer$Kind;"), (2, u "STRING"), (2, u "NUMBER"), (2, u "NAMED_PARAMETER"), (2, u "NUMBERED_PARAMETER"), (2, u "SYMBOL"), (2, u "END"), (2, u "$VALUES"), (0, u "[Lcom/example/strict_mapper/strictmapper/query/JpqlLexer$Kind;"), (6, .class_ 37), (1, u "java/lang/Enum"), (30, .class_ 69), (0, u "com/example/strict_mapper/strictmapper/query/JpqlLexer")] 2

/-- com/example/strict_mapper/strictmapper/query/JpqlLexer$Kind -/
def k6 : Class := { plain "com/example/strict_mapper/strictmapper/query/JpqlLexer$Kind" (some 5) with
  accessFlags := 16432
  interfaces := #[]
  cf := some (fileOf pool6 1 #[.nestHost 68] #[] 16432 35 #[] #[{ accessFlags := 16409, nameIndex := 5, descriptorIndex := 6, attributes := #[] }, { accessFlags := 16409, nameIndex := 9, descriptorIndex := 6, attributes := #[] }, { accessFlags := 16409, nameIndex := 12, descriptorIndex := 6, attributes := #[] }, { accessFlags := 16409, nameIndex := 15, descriptorIndex := 6, attributes := #[] }, { accessFlags := 16409, nameIndex := 18, descriptorIndex := 6, attributes := #[] }, { accessFlags := 16409, nameIndex := 21, descriptorIndex := 6, attributes := #[] }, { accessFlags := 16409, nameIndex := 24, descriptorIndex := 6, attributes := #[] }, { accessFlags := 4122, nameIndex := 27, descriptorIndex := 28, attributes := #[] }])
  fields := #[{ name := "WORD", type := (.object "com/example/strict_mapper/strictmapper/query/JpqlLexer$Kind"), accessFlags := 16409, slot := 0, constantValue := 0 }, { name := "STRING", type := (.object "com/example/strict_mapper/strictmapper/query/JpqlLexer$Kind"), accessFlags := 16409, slot := 1, constantValue := 0 }, { name := "NUMBER", type := (.object "com/example/strict_mapper/strictmapper/query/JpqlLexer$Kind"), accessFlags := 16409, slot := 2, constantValue := 0 }, { name := "NAMED_PARAMETER", type := (.object "com/example/strict_mapper/strictmapper/query/JpqlLexer$Kind"), accessFlags := 16409, slot := 3, constantValue := 0 }, { name := "NUMBERED_PARAMETER", type := (.object "com/example/strict_mapper/strictmapper/query/JpqlLexer$Kind"), accessFlags := 16409, slot := 4, constantValue := 0 }, { name := "SYMBOL", type := (.object "com/example/strict_mapper/strictmapper/query/JpqlLexer$Kind"), accessFlags := 16409, slot := 5, constantValue := 0 }, { name := "END", type := (.object "com/example/strict_mapper/strictmapper/query/JpqlLexer$Kind"), accessFlags := 16409, slot := 6, constantValue := 0 }, { name := "$VALUES", type := (.array (.object "com/example/strict_mapper/strictmapper/query/JpqlLexer$Kind")), accessFlags := 4122, slot := 7, constantValue := 0 }]
  methods := #[]
  instanceTypes := #[(.object "java/lang/String"), .int, .int]
  staticTypes := #[(.object "com/example/strict_mapper/strictmapper/query/JpqlLexer$Kind"), (.object "com/example/strict_mapper/strictmapper/query/JpqlLexer$Kind"), (.object "com/example/strict_mapper/strictmapper/query/JpqlLexer$Kind"), (.object "com/example/strict_mapper/strictmapper/query/JpqlLexer$Kind"), (.object "com/example/strict_mapper/strictmapper/query/JpqlLexer$Kind"), (.object "com/example/strict_mapper/strictmapper/query/JpqlLexer$Kind"), (.object "com/example/strict_mapper/strictmapper/query/JpqlLexer$Kind"), (.array (.object "com/example/strict_mapper/strictmapper/query/JpqlLexer$Kind"))]
  resolved := Array.replicate 72 none
  statics := some 0 }

def pool7 : Array CpInfo := pool [(2, .class_ 4), (1, u "java/lang/CharSequence"), (42, .class_ 48), (0, u "java/lang/CharSequence$1CodePointIterator"), (10, .class_ 60), (0, u "java/lang/CharSequence$1CharIterator"), (5, .class_ 67), (0, u "java/lang/Object")] 63

/-- java/lang/CharSequence -/
def k7 : Class := { plain "java/lang/CharSequence" (some 0) with
  accessFlags := 1537
  interfaces := #[]
  cf := some (fileOf pool7 2 #[.nestMembers #[47, 59]] #[] 1537 66 #[] #[])
  fields := #[]
  methods := #[]
  instanceTypes := #[]
  staticTypes := #[]
  resolved := Array.replicate 131 none
  statics := none }

def pool8 : Array CpInfo := pool [(1, .class_ 2), (0, u "java/lang/constant/ConstantDesc"), (0, .class_ 4), (0, u "java/lang/Object")] 32

/-- java/lang/constant/ConstantDesc -/
def k8 : Class := { plain "java/lang/constant/ConstantDesc" (some 0) with
  accessFlags := 1537
  interfaces := #[]
  cf := some (fileOf pool8 1 #[] #[] 1537 3 #[] #[])
  fields := #[]
  methods := #[]
  instanceTypes := #[]
  staticTypes := #[]
  resolved := Array.replicate 37 none
  statics := none }

def pool9 : Array CpInfo := pool [(1, .methodref 2 3), (0, .class_ 4), (0, .nameAndType 5 6), (0, u "java/lang/Object"), (0, u "<init>"), (0, u "()V"), (0, .string 8), (0, u ""), (0, .fieldref 10 11), (0, .class_ 12), (0, .nameAndType 13 14), (0, u "java/lang/String"), (0, u "value"), (0, u "[B"), (0, .fieldref 10 16), (0, .nameAndType 17 18), (0, u "coder"), (0, u "B"), (2, u "hash"), (0, u "I"), (2, u "hashIsZero"), (0, u "Z"), (0, .methodref 10 28), (0, .nameAndType 5 29), (0, u "([CIILjava/lang/Void;)V"), (8, .fieldref 10 39), (0, .nameAndType 40 26), (0, u "COMPACT_STRINGS"), (1, .class_ 44), (1, u "java/lang/StringUTF16"), (0, u "compress"), (1, .methodref 42 48), (0, .nameAndType 49 50), (0, u "coderFromArrayLen"), (0, u "([BI)B"), (56, .class_ 109), (1, u "java/lang/StringLatin1"), (67, .methodref 42 178), (0, .nameAndType 45 179), (0, u "([CII)[B"), (361, .methodref 107 542), (0, .nameAndType 543 544), (0, u "equals"), (0, u "([B[B)Z"), (28, u "(Ljava/lang/Object;)Z"), (1, .class_ 576), (0, u "java/lang/CharSequence"), (22, u "CASE_INSENSITIVE_ORDER"), (0, u "Ljava/util/Comparator;"), (409, u "([C)V"), (90, u "serialPersistentFields"), (0, u "[Ljava/io/ObjectStreamField;"), (0, .class_ 1104), (0, u "java/lang/String$CaseInsensitiveComparator"), (1, .class_ 1107), (0, u "java/io/Serializable"), (0, .class_ 1109), (0, u "java/lang/Comparable"), (0, .class_ 1111), (0, u "java/lang/constant/Constable"), (0, .class_ 1113), (0, u "java/lang/constant/ConstantDesc"), (2, u "serialVersionUID"), (0, u "J"), (3, u "REPL"), (0, u "C"), (2, u "LATIN1"), (1, u "UTF16")] 323

def k9m0 : Method := { name := "<init>", desc := "()V", sig := { parameters := [], returnType := none }, accessFlags := 1, code := none }
def k9c1 : Code := { maxStack := 5, maxLocals := 2, code := jdk_42_method_3_code, exceptionTable := #[], attributes := #[] }
def k9m1 : Method := { name := "<init>", desc := "([C)V", sig := { parameters := [(.array .char)], returnType := none }, accessFlags := 1, code := some k9c1 }
def k9c2 : Code := { maxStack := 2, maxLocals := 3, code := jdk_42_method_66_code, exceptionTable := #[], attributes := #[] }
def k9m2 : Method := { name := "equals", desc := "(Ljava/lang/Object;)Z", sig := { parameters := [(.object "java/lang/Object")], returnType := some .boolean }, accessFlags := 1, code := some k9c2 }
def k9c3 : Code := { maxStack := 4, maxLocals := 6, code := jdk_42_method_149_code, exceptionTable := #[], attributes := #[] }
def k9m3 : Method := { name := "<init>", desc := "([CIILjava/lang/Void;)V", sig := { parameters := [(.array .char), .int, .int, (.object "java/lang/Void")], returnType := none }, accessFlags := 2, code := some k9c3 }
/-- java/lang/String -/
def k9 : Class := { plain "java/lang/String" (some 0) with
  accessFlags := 49
  interfaces := #[4, 3, 7, 2, 8]
  cf := some (fileOf pool9 10 #[.nestMembers #[1103]] #[{ accessFlags := 1, nameIndex := 5, descriptorIndex := 6, attributes := #[] }, { accessFlags := 1, nameIndex := 5, descriptorIndex := 1010, attributes := #[] }, { accessFlags := 1, nameIndex := 543, descriptorIndex := 573, attributes := #[] }, { accessFlags := 2, nameIndex := 5, descriptorIndex := 29, attributes := #[] }] 49 2 #[1106, 1108, 575, 1110, 1112] #[{ accessFlags := 18, nameIndex := 13, descriptorIndex := 14, attributes := #[] }, { accessFlags := 18, nameIndex := 17, descriptorIndex := 18, attributes := #[] }, { accessFlags := 2, nameIndex := 21, descriptorIndex := 22, attributes := #[] }, { accessFlags := 2, nameIndex := 25, descriptorIndex := 26, attributes := #[] }, { accessFlags := 26, nameIndex := 1116, descriptorIndex := 1117, attributes := #[] }, { accessFlags := 24, nameIndex := 40, descriptorIndex := 26, attributes := #[] }, { accessFlags := 26, nameIndex := 1101, descriptorIndex := 1102, attributes := #[] }, { accessFlags := 26, nameIndex := 1121, descriptorIndex := 1122, attributes := #[] }, { accessFlags := 25, nameIndex := 599, descriptorIndex := 600, attributes := #[] }, { accessFlags := 24, nameIndex := 1125, descriptorIndex := 18, attributes := #[] }, { accessFlags := 24, nameIndex := 1127, descriptorIndex := 18, attributes := #[] }])
  fields := #[{ name := "value", type := (.array .byte), accessFlags := 18, slot := 0, constantValue := 0 }, { name := "coder", type := .byte, accessFlags := 18, slot := 1, constantValue := 0 }, { name := "hash", type := .int, accessFlags := 2, slot := 2, constantValue := 0 }, { name := "hashIsZero", type := .boolean, accessFlags := 2, slot := 3, constantValue := 0 }, { name := "serialVersionUID", type := .long, accessFlags := 26, slot := 0, constantValue := 0 }, { name := "COMPACT_STRINGS", type := .boolean, accessFlags := 24, slot := 1, constantValue := 0 }, { name := "serialPersistentFields", type := (.array (.object "java/io/ObjectStreamField")), accessFlags := 26, slot := 2, constantValue := 0 }, { name := "REPL", type := .char, accessFlags := 26, slot := 3, constantValue := 0 }, { name := "CASE_INSENSITIVE_ORDER", type := (.object "java/util/Comparator"), accessFlags := 25, slot := 4, constantValue := 0 }, { name := "LATIN1", type := .byte, accessFlags := 24, slot := 5, constantValue := 0 }, { name := "UTF16", type := .byte, accessFlags := 24, slot := 6, constantValue := 0 }]
  methods := #[k9m0, k9m1, k9m2, k9m3]
  instanceTypes := #[(.array .byte), .byte, .int, .boolean]
  staticTypes := #[.long, .boolean, (.array (.object "java/io/ObjectStreamField")), .char, (.object "java/util/Comparator"), .byte, .byte]
  resolved := Array.replicate 1451 none
  statics := some 1 }

def pool10 : Array CpInfo := pool [(6, .class_ 8), (1, u "java/lang/Object"), (0, u "<init>"), (0, u "()V"), (1, .class_ 14), (1, u "java/lang/StringUTF16"), (31, u "$assertionsDisabled"), (0, u "Z"), (13, u "HI_BYTE_SHIFT"), (0, u "I"), (2, u "LO_BYTE_SHIFT"), (49, .methodref 12 116), (0, .nameAndType 117 118), (0, u "compress"), (0, u "([CI[BII)I"), (3, u "([CII)[B"), (138, u "coderFromArrayLen"), (0, u "([BI)B"), (106, .class_ 371), (1, u "java/lang/StringUTF16$LinesSpliterator"), (58, u "MAX_LENGTH"), (196, .class_ 628), (0, u "java/lang/StringUTF16$CodePointsSpliterator"), (0, .class_ 630), (0, u "java/lang/StringUTF16$CharsSpliterator")] 4

def k10m0 : Method := { name := "<init>", desc := "()V", sig := { parameters := [], returnType := none }, accessFlags := 0, code := none }
def k10c1 : Code := { maxStack := 2, maxLocals := 2, code := jdk_52_method_15_code, exceptionTable := #[], attributes := #[] }
def k10m1 : Method := { name := "coderFromArrayLen", desc := "([BI)B", sig := { parameters := [(.array .byte), .int], returnType := some .byte }, accessFlags := 8, code := some k10c1 }
def k10c2 : Code := { maxStack := 5, maxLocals := 6, code := jdk_52_method_16_code, exceptionTable := #[], attributes := #[] }
def k10m2 : Method := { name := "compress", desc := "([CII)[B", sig := { parameters := [(.array .char), .int, .int], returnType := some (.array .byte) }, accessFlags := 9, code := some k10c2 }
def k10c3 : Code := { maxStack := 3, maxLocals := 7, code := jdk_52_method_21_code, exceptionTable := #[], attributes := #[] }
def k10m3 : Method := { name := "compress", desc := "([CI[BII)I", sig := { parameters := [(.array .char), .int, (.array .byte), .int, .int], returnType := some .int }, accessFlags := 9, code := some k10c3 }
/-- java/lang/StringUTF16 -/
def k10 : Class := { plain "java/lang/StringUTF16" (some 0) with
  accessFlags := 48
  interfaces := #[]
  cf := some (fileOf pool10 12 #[.nestMembers #[627, 629, 369]] #[{ accessFlags := 0, nameIndex := 9, descriptorIndex := 10, attributes := #[] }, { accessFlags := 8, nameIndex := 261, descriptorIndex := 262, attributes := #[] }, { accessFlags := 9, nameIndex := 117, descriptorIndex := 122, attributes := #[] }, { accessFlags := 9, nameIndex := 117, descriptorIndex := 118, attributes := #[] }] 48 6 #[] #[{ accessFlags := 26, nameIndex := 61, descriptorIndex := 62, attributes := #[] }, { accessFlags := 26, nameIndex := 65, descriptorIndex := 62, attributes := #[] }, { accessFlags := 24, nameIndex := 430, descriptorIndex := 62, attributes := #[] }, { accessFlags := 4120, nameIndex := 46, descriptorIndex := 47, attributes := #[] }])
  fields := #[{ name := "HI_BYTE_SHIFT", type := .int, accessFlags := 26, slot := 0, constantValue := 0 }, { name := "LO_BYTE_SHIFT", type := .int, accessFlags := 26, slot := 1, constantValue := 0 }, { name := "MAX_LENGTH", type := .int, accessFlags := 24, slot := 2, constantValue := 0 }, { name := "$assertionsDisabled", type := .boolean, accessFlags := 4120, slot := 3, constantValue := 0 }]
  methods := #[k10m0, k10m1, k10m2, k10m3]
  instanceTypes := #[]
  staticTypes := #[.int, .int, .int, .boolean]
  resolved := Array.replicate 635 none
  statics := none }

def pool11 : Array CpInfo := pool [(1, .methodref 2 3), (0, .class_ 4), (0, .nameAndType 5 6), (0, u "java/lang/Object"), (0, u "<init>"), (0, u "()V"), (0, .class_ 8), (0, u "java/lang/Record")] 13

def k11c0 : Code := { maxStack := 1, maxLocals := 1, code := jdk_30_method_1_code, exceptionTable := #[], attributes := #[] }
def k11m0 : Method := { name := "<init>", desc := "()V", sig := { parameters := [], returnType := none }, accessFlags := 4, code := some k11c0 }
/-- java/lang/Record -/
def k11 : Class := { plain "java/lang/Record" (some 0) with
  accessFlags := 1057
  interfaces := #[]
  cf := some (fileOf pool11 7 #[] #[{ accessFlags := 4, nameIndex := 5, descriptorIndex := 6, attributes := #[] }] 1057 2 #[] #[])
  fields := #[]
  methods := #[k11m0]
  instanceTypes := #[]
  staticTypes := #[]
  resolved := Array.replicate 22 none
  statics := none }

def pool12 : Array CpInfo := pool [(1, .methodref 2 3), (0, .class_ 4), (0, .nameAndType 5 6), (0, u "java/lang/Record"), (0, u "<init>"), (0, u "()V"), (0, .fieldref 8 9), (0, .class_ 10), (0, .nameAndType 11 12), (0, u "com/example/strict_mapper/strictmapper/query/JpqlLexer$Token"), (0, u "kind"), (0, u "Lcom/example/strict_mapper/strictmapper/query/JpqlLexer$Kind;"), (0, .fieldref 8 14), (0, .nameAndType 15 16), (0, u "text"), (0, u "Ljava/lang/String;"), (0, .fieldref 8 18), (0, .nameAndType 19 20), (0, u "index"), (0, u "I"), (1, .class_ 24), (1, u "com/example/strict_mapper/strictmapper/query/JpqlLexer$Kind"), (2, .class_ 29), (1, u "java/lang/String"), (1, u "(Ljava/lang/String;)Z"), (0, .fieldref 22 33), (0, .nameAndType 34 12), (0, u "SYMBOL"), (0, .methodref 27 36), (0, .nameAndType 37 38), (0, u "equals"), (0, u "(Ljava/lang/Object;)Z"), (11, u "(Lcom/example/strict_mapper/strictmapper/query/JpqlLexer$Kind;Ljava/lang/String;I)V"), (5, u "isSymbol"), (6, .class_ 64), (0, u "com/example/strict_mapper/strictmapper/query/JpqlLexer")] 22

def k12c0 : Code := { maxStack := 2, maxLocals := 4, code := prog_21_method_1_code, exceptionTable := #[], attributes := #[] }
def k12m0 : Method := { name := "<init>", desc := "(Lcom/example/strict_mapper/strictmapper/query/JpqlLexer$Kind;Ljava/lang/String;I)V", sig := { parameters := [(.object "com/example/strict_mapper/strictmapper/query/JpqlLexer$Kind"), (.object "java/lang/String"), .int], returnType := none }, accessFlags := 0, code := some k12c0 }
def k12c1 : Code := { maxStack := 2, maxLocals := 2, code := prog_21_method_3_code, exceptionTable := #[], attributes := #[] }
def k12m1 : Method := { name := "isSymbol", desc := "(Ljava/lang/String;)Z", sig := { parameters := [(.object "java/lang/String")], returnType := some .boolean }, accessFlags := 0, code := some k12c1 }
/-- com/example/strict_mapper/strictmapper/query/JpqlLexer$Token -/
def k12 : Class := { plain "com/example/strict_mapper/strictmapper/query/JpqlLexer$Token" (some 11) with
  accessFlags := 48
  interfaces := #[]
  cf := some (fileOf pool12 8 #[.nestHost 63] #[{ accessFlags := 0, nameIndex := 5, descriptorIndex := 50, attributes := #[] }, { accessFlags := 0, nameIndex := 56, descriptorIndex := 31, attributes := #[] }] 48 2 #[] #[{ accessFlags := 18, nameIndex := 11, descriptorIndex := 12, attributes := #[] }, { accessFlags := 18, nameIndex := 15, descriptorIndex := 16, attributes := #[] }, { accessFlags := 18, nameIndex := 19, descriptorIndex := 20, attributes := #[] }])
  fields := #[{ name := "kind", type := (.object "com/example/strict_mapper/strictmapper/query/JpqlLexer$Kind"), accessFlags := 18, slot := 0, constantValue := 0 }, { name := "text", type := (.object "java/lang/String"), accessFlags := 18, slot := 1, constantValue := 0 }, { name := "index", type := .int, accessFlags := 18, slot := 2, constantValue := 0 }]
  methods := #[k12m0, k12m1]
  instanceTypes := #[(.object "com/example/strict_mapper/strictmapper/query/JpqlLexer$Kind"), (.object "java/lang/String"), .int]
  staticTypes := #[]
  resolved := Array.replicate 87 none
  statics := none }

def pool13 : Array CpInfo := pool [(4, .class_ 6), (1, u "java/lang/Object"), (0, u "<init>"), (0, u "()V"), (5, .class_ 16), (1, u "java/lang/StringLatin1"), (104, u "$assertionsDisabled"), (0, u "Z"), (98, .class_ 223), (1, u "java/lang/StringLatin1$LinesSpliterator"), (57, u "equals"), (0, u "([B[B)Z"), (107, .class_ 391), (0, u "java/lang/StringLatin1$CharsSpliterator")] 3

def k13m0 : Method := { name := "<init>", desc := "()V", sig := { parameters := [], returnType := none }, accessFlags := 0, code := none }
def k13c1 : Code := { maxStack := 3, maxLocals := 3, code := jdk_43_method_13_code, exceptionTable := #[], attributes := #[] }
def k13m1 : Method := { name := "equals", desc := "([B[B)Z", sig := { parameters := [(.array .byte), (.array .byte)], returnType := some .boolean }, accessFlags := 9, code := some k13c1 }
/-- java/lang/StringLatin1 -/
def k13 : Class := { plain "java/lang/StringLatin1" (some 0) with
  accessFlags := 48
  interfaces := #[]
  cf := some (fileOf pool13 14 #[.nestMembers #[390, 221]] #[{ accessFlags := 0, nameIndex := 7, descriptorIndex := 8, attributes := #[] }, { accessFlags := 9, nameIndex := 281, descriptorIndex := 282, attributes := #[] }] 48 4 #[] #[{ accessFlags := 4120, nameIndex := 121, descriptorIndex := 122, attributes := #[] }])
  fields := #[{ name := "$assertionsDisabled", type := .boolean, accessFlags := 4120, slot := 0, constantValue := 0 }]
  methods := #[k13m0, k13m1]
  instanceTypes := #[]
  staticTypes := #[.boolean]
  resolved := Array.replicate 395 none
  statics := none }

def pool14 : Array CpInfo := pool [(2, .class_ 4), (1, u "java/lang/Object"), (0, u "<init>"), (0, u "()V"), (17, .class_ 26), (1, u "jdk/internal/util/Preconditions"), (28, .class_ 56), (0, u "jdk/internal/util/Preconditions$4"), (57, .class_ 115), (0, u "jdk/internal/util/Preconditions$1"), (7, u "SIOOBE_FORMATTER"), (0, u "Ljava/util/function/BiFunction;"), (0, .class_ 126), (0, u "jdk/internal/util/Preconditions$2"), (3, u "AIOOBE_FORMATTER"), (0, .class_ 132), (0, u "jdk/internal/util/Preconditions$3"), (3, u "IOOBE_FORMATTER")] 57

def k14m0 : Method := { name := "<init>", desc := "()V", sig := { parameters := [], returnType := none }, accessFlags := 1, code := none }
/-- jdk/internal/util/Preconditions -/
def k14 : Class := { plain "jdk/internal/util/Preconditions" (some 0) with
  accessFlags := 33
  interfaces := #[]
  cf := some (fileOf pool14 24 #[.nestMembers #[55, 131, 125, 114]] #[{ accessFlags := 1, nameIndex := 5, descriptorIndex := 6, attributes := #[] }] 33 2 #[] #[{ accessFlags := 25, nameIndex := 123, descriptorIndex := 124, attributes := #[] }, { accessFlags := 25, nameIndex := 130, descriptorIndex := 124, attributes := #[] }, { accessFlags := 25, nameIndex := 136, descriptorIndex := 124, attributes := #[] }])
  fields := #[{ name := "SIOOBE_FORMATTER", type := (.object "java/util/function/BiFunction"), accessFlags := 25, slot := 0, constantValue := 0 }, { name := "AIOOBE_FORMATTER", type := (.object "java/util/function/BiFunction"), accessFlags := 25, slot := 1, constantValue := 0 }, { name := "IOOBE_FORMATTER", type := (.object "java/util/function/BiFunction"), accessFlags := 25, slot := 2, constantValue := 0 }]
  methods := #[k14m0]
  instanceTypes := #[]
  staticTypes := #[(.object "java/util/function/BiFunction"), (.object "java/util/function/BiFunction"), (.object "java/util/function/BiFunction")]
  resolved := Array.replicate 194 none
  statics := some 2 }

def pool15 : Array CpInfo := pool [(9, u "<init>"), (6, .class_ 18), (1, u "java/lang/Object"), (0, u "()V"), (1, .class_ 23), (1, u "jdk/internal/util/ArraysSupport"), (0, u "LOG2_ARRAY_LONG_INDEX_SCALE"), (0, u "I"), (2, u "U"), (0, u "Ljdk/internal/misc/Unsafe;"), (8, u "BIG_ENDIAN"), (0, u "Z"), (8, u "LOG2_BYTE_BIT_SIZE"), (4, u "LOG2_ARRAY_INT_INDEX_SCALE"), (54, u "JLA"), (0, u "Ljdk/internal/access/JavaLangAccess;"), (11, u "LOG2_ARRAY_BOOLEAN_INDEX_SCALE"), (9, u "LOG2_ARRAY_BYTE_INDEX_SCALE"), (5, u "LOG2_ARRAY_CHAR_INDEX_SCALE"), (5, u "LOG2_ARRAY_SHORT_INDEX_SCALE"), (18, u "LOG2_ARRAY_FLOAT_INDEX_SCALE"), (24, u "LOG2_ARRAY_DOUBLE_INDEX_SCALE"), (89, u "T_BOOLEAN"), (2, u "T_CHAR"), (1, u "T_FLOAT"), (1, u "T_DOUBLE"), (1, u "T_BYTE"), (1, u "T_SHORT"), (1, u "T_INT"), (1, u "T_LONG"), (1, u "SOFT_MAX_ARRAY_LENGTH")] 83

def k15m0 : Method := { name := "<init>", desc := "()V", sig := { parameters := [], returnType := none }, accessFlags := 2, code := none }
/-- jdk/internal/util/ArraysSupport -/
def k15 : Class := { plain "jdk/internal/util/ArraysSupport" (some 0) with
  accessFlags := 33
  interfaces := #[]
  cf := some (fileOf pool15 21 #[] #[{ accessFlags := 2, nameIndex := 9, descriptorIndex := 19, attributes := #[] }] 33 16 #[] #[{ accessFlags := 24, nameIndex := 28, descriptorIndex := 29, attributes := #[] }, { accessFlags := 26, nameIndex := 38, descriptorIndex := 39, attributes := #[] }, { accessFlags := 25, nameIndex := 121, descriptorIndex := 25, attributes := #[] }, { accessFlags := 25, nameIndex := 131, descriptorIndex := 25, attributes := #[] }, { accessFlags := 25, nameIndex := 137, descriptorIndex := 25, attributes := #[] }, { accessFlags := 25, nameIndex := 143, descriptorIndex := 25, attributes := #[] }, { accessFlags := 25, nameIndex := 53, descriptorIndex := 25, attributes := #[] }, { accessFlags := 25, nameIndex := 24, descriptorIndex := 25, attributes := #[] }, { accessFlags := 25, nameIndex := 162, descriptorIndex := 25, attributes := #[] }, { accessFlags := 25, nameIndex := 187, descriptorIndex := 25, attributes := #[] }, { accessFlags := 26, nameIndex := 48, descriptorIndex := 25, attributes := #[] }, { accessFlags := 25, nameIndex := 277, descriptorIndex := 25, attributes := #[] }, { accessFlags := 25, nameIndex := 280, descriptorIndex := 25, attributes := #[] }, { accessFlags := 25, nameIndex := 282, descriptorIndex := 25, attributes := #[] }, { accessFlags := 25, nameIndex := 284, descriptorIndex := 25, attributes := #[] }, { accessFlags := 25, nameIndex := 286, descriptorIndex := 25, attributes := #[] }, { accessFlags := 25, nameIndex := 288, descriptorIndex := 25, attributes := #[] }, { accessFlags := 25, nameIndex := 290, descriptorIndex := 25, attributes := #[] }, { accessFlags := 25, nameIndex := 292, descriptorIndex := 25, attributes := #[] }, { accessFlags := 26, nameIndex := 108, descriptorIndex := 109, attributes := #[] }, { accessFlags := 25, nameIndex := 294, descriptorIndex := 25, attributes := #[] }])
  fields := #[{ name := "U", type := (.object "jdk/internal/misc/Unsafe"), accessFlags := 24, slot := 0, constantValue := 0 }, { name := "BIG_ENDIAN", type := .boolean, accessFlags := 26, slot := 1, constantValue := 0 }, { name := "LOG2_ARRAY_BOOLEAN_INDEX_SCALE", type := .int, accessFlags := 25, slot := 2, constantValue := 0 }, { name := "LOG2_ARRAY_BYTE_INDEX_SCALE", type := .int, accessFlags := 25, slot := 3, constantValue := 0 }, { name := "LOG2_ARRAY_CHAR_INDEX_SCALE", type := .int, accessFlags := 25, slot := 4, constantValue := 0 }, { name := "LOG2_ARRAY_SHORT_INDEX_SCALE", type := .int, accessFlags := 25, slot := 5, constantValue := 0 }, { name := "LOG2_ARRAY_INT_INDEX_SCALE", type := .int, accessFlags := 25, slot := 6, constantValue := 0 }, { name := "LOG2_ARRAY_LONG_INDEX_SCALE", type := .int, accessFlags := 25, slot := 7, constantValue := 0 }, { name := "LOG2_ARRAY_FLOAT_INDEX_SCALE", type := .int, accessFlags := 25, slot := 8, constantValue := 0 }, { name := "LOG2_ARRAY_DOUBLE_INDEX_SCALE", type := .int, accessFlags := 25, slot := 9, constantValue := 0 }, { name := "LOG2_BYTE_BIT_SIZE", type := .int, accessFlags := 26, slot := 10, constantValue := 0 }, { name := "T_BOOLEAN", type := .int, accessFlags := 25, slot := 11, constantValue := 0 }, { name := "T_CHAR", type := .int, accessFlags := 25, slot := 12, constantValue := 0 }, { name := "T_FLOAT", type := .int, accessFlags := 25, slot := 13, constantValue := 0 }, { name := "T_DOUBLE", type := .int, accessFlags := 25, slot := 14, constantValue := 0 }, { name := "T_BYTE", type := .int, accessFlags := 25, slot := 15, constantValue := 0 }, { name := "T_SHORT", type := .int, accessFlags := 25, slot := 16, constantValue := 0 }, { name := "T_INT", type := .int, accessFlags := 25, slot := 17, constantValue := 0 }, { name := "T_LONG", type := .int, accessFlags := 25, slot := 18, constantValue := 0 }, { name := "JLA", type := (.object "jdk/internal/access/JavaLangAccess"), accessFlags := 26, slot := 19, constantValue := 0 }, { name := "SOFT_MAX_ARRAY_LENGTH", type := .int, accessFlags := 25, slot := 20, constantValue := 0 }]
  methods := #[k15m0]
  instanceTypes := #[]
  staticTypes := #[(.object "jdk/internal/misc/Unsafe"), .boolean, .int, .int, .int, .int, .int, .int, .int, .int, .int, .int, .int, .int, .int, .int, .int, .int, .int, (.object "jdk/internal/access/JavaLangAccess"), .int]
  resolved := Array.replicate 378 none
  statics := none }

def pool16 : Array CpInfo := pool [(1, u "java/lang/Cloneable"), (0, .class_ 1), (0, u "java/lang/Object"), (0, .class_ 3)] 3

/-- java/lang/Cloneable -/
def k16 : Class := { plain "java/lang/Cloneable" (some 0) with
  accessFlags := 1537
  interfaces := #[]
  cf := some (fileOf pool16 2 #[] #[] 1537 4 #[] #[])
  fields := #[]
  methods := #[]
  instanceTypes := #[]
  staticTypes := #[]
  resolved := Array.replicate 8 none
  statics := none }

/-- the primitive byte -/
def k17 : Class := { plain "byte" none with kind := .primitive 'B', accessFlags := 0x411 }
/-- [B -/
def k18 : Class := { plain "[B" (some 0) with kind := .array 17 .byte, interfaces := #[16, 4], accessFlags := 1041 }

/-- the primitive char -/
def k19 : Class := { plain "char" none with kind := .primitive 'C', accessFlags := 0x411 }
/-- [C -/
def k20 : Class := { plain "[C" (some 0) with kind := .array 19 .char, interfaces := #[16, 4], accessFlags := 1041 }

/-- the primitive int -/
def k21 : Class := { plain "int" none with kind := .primitive 'I', accessFlags := 0x411 }
/-- [I -/
def k22 : Class := { plain "[I" (some 0) with kind := .array 21 .int, interfaces := #[16, 4], accessFlags := 1041 }

def heap : Heap := #[{ cls := 6, slots := #[.ref 3, .ref 4, .ref 5, .ref 6, .ref 7, .ref 8, .ref 9, .null], vm := .statics 6 },
  { cls := 9, slots := #[.long 0, .int 1, .null, .int 0, .null, .int 0, .int 0], vm := .statics 9 },
  { cls := 14, slots := #[.null, .null, .null], vm := .statics 14 },
  { cls := 6, slots := #[.null, .int 0, .int 0], vm := .none },
  { cls := 6, slots := #[.null, .int 1, .int 0], vm := .none },
  { cls := 6, slots := #[.null, .int 2, .int 0], vm := .none },
  { cls := 6, slots := #[.null, .int 3, .int 0], vm := .none },
  { cls := 6, slots := #[.null, .int 4, .int 0], vm := .none },
  { cls := 6, slots := #[.null, .int 5, .int 0], vm := .none },
  { cls := 6, slots := #[.null, .int 6, .int 0], vm := .none }]
def classes : Array Class := #[k0, k1, k2, k3, k4, k5, k6, k7, k8, k9, k10, k11, k12, k13, k14, k15, k16, k17, k18, k19, k20, k21, k22]
def interned : List (Array UInt16 × Addr) := []
def slotsUsed : Nat := 39
def theMethod : MethodId := ⟨1, 3⟩
def args0 : Array Value := #[.int 5, .int 5, .int 5, .int 5, .int 5]
def aboutOver (below : List Frame) : State where
  vm := { classes := classes, interned := interned.toArray }
  heap := heap
  slotsUsed := slotsUsed
  threads := #[{ frames := .invoking theMethod args0 :: below }]
def below0 : List Frame := [.native { method := ⟨0, 0⟩, args := #[] }]
def about1 : State := aboutOver below0
def p0 : Program := .bare "" "" ""
def e0 : Env := launch0.env 0 0 0
theorem w_frames : about1.frames = Frame.invoking theMethod args0 :: below0 := rfl
set_option maxRecDepth 65536 in
theorem w_args : argsFit about1.vm theMethod args0 = true := by decide +kernel
set_option maxRecDepth 65536 in
theorem w_heap : heapFits about1 = true := by decide +kernel
set_option maxRecDepth 65536 in
theorem w_runnable : about1.curStatus? = some .runnable := by decide +kernel
set_option maxRecDepth 65536 in
theorem w_alone : about1.alone = true := by decide +kernel
set_option maxRecDepth 65536 in
theorem w_named : about1.methodNamed? x = some theMethod := by decide +kernel
set_option maxRecDepth 65536 in
theorem w_hears : about1.hears theMethod below0 = true := by decide +kernel
set_option maxRecDepth 65536 in
theorem w_ripe : about1.ripe theMethod args0 below0 = true := by decide +kernel
theorem w_running : about1.status = .running := rfl
set_option maxRecDepth 65536 in
theorem w_room : about1.hasRoom e0.platform room_1 = true :=
  launch0.hasRoom_least _ room_1 (by decide +kernel) (by decide +kernel) (by decide +kernel) (by decide +kernel) (by decide +kernel) (by decide +kernel)
theorem allAtoms_all (ts : List Jvm.Cond) (a : Array Jvm.Value) (st : Jvm.State) : (allAtoms ts).before a st = ts.all (fun c => c.before a st) := by
  induction ts with
  | nil => rfl
  | cons c t ih =>
    show (Jvm.Cond.and c (allAtoms t)).before a st = _
    rw [Jvm.Cond.before_and, ih, List.all_cons]
def words1 : List Jvm.Cond := Jvm.Cond.code x code maxLocals ret :: tables_1
/-- a 'code' word, met by the world's own term for the bytes: nothing is compared byte by byte -/
theorem code_word {y : MethodName} {bytes : ByteArray} {mx : Nat} {rt : Option FieldType} {a : Array Value} {s : State} {m : MethodId} {meth : Method} {c : Code} (h1 : s.methodNamed? y = some m) (h2 : s.vm.method? m = some meth) (h3 : meth.code = some c) (h4 : c.code = bytes)
    (h5 : (c.maxLocals == mx && c.exceptionTable.isEmpty && decide (c.maxStack ≤ mostOperands) && decide (meth.sig.returnType = rt) && !meth.locks && decide (parseMethodDescriptor y.desc = some meth.sig)) = true) : (Jvm.Cond.code y bytes mx rt).before a s = true := by
  simp only [Bool.and_eq_true, beq_iff_eq, Bool.not_eq_true', decide_eq_true_eq] at h5
  obtain ⟨⟨⟨⟨⟨g1, g2⟩, g3⟩, g4⟩, g5⟩, g6⟩ := h5
  simp [Cond.before, Cond.holds, Cond.value, h1, h2, h3, h4, g1, g2, g3, g4, g5, g6]
def isCode : Jvm.Cond → Bool
  | .code _ _ _ _ => true
  | _ => false
theorem all_split {L : List Jvm.Cond} {P : Jvm.Cond → Bool} (h1 : L.all (fun c => isCode c || P c) = true) (h2 : ∀ c ∈ L.filter isCode, P c = true) : L.all P = true := by
  refine List.all_eq_true.mpr fun c hc => ?_
  have h := List.all_eq_true.mp h1 c hc
  rcases Bool.eq_false_or_eq_true (isCode c) with hi | hi
  · exact h2 c (List.mem_filter.mpr ⟨hc, hi⟩)
  · simpa [hi] using h
set_option maxRecDepth 65536 in
theorem w_c0 : (Jvm.Cond.code x code maxLocals ret).before args0 about1 = true := code_word (m := ⟨1, 3⟩) (meth := k1m3) (c := k1c3) (by decide +kernel) rfl rfl rfl (by decide +kernel)
set_option maxRecDepth 65536 in
theorem w_c1 : (Jvm.Cond.code ({ cls := "com/example/strict_mapper/strictmapper/query/TokenIsSymbolPinLaw", name := "kindOf", desc := "(I)Lcom/example/strict_mapper/strictmapper/query/JpqlLexer$Kind;" } : Jvm.MethodName) method_2_code (1 : Nat) (Option.some (Jvm.ClassFile.FieldType.object "com/example/strict_mapper/strictmapper/query/JpqlLexer$Kind"))).before args0 about1 = true := code_word (m := ⟨1, 1⟩) (meth := k1m1) (c := k1c1) (by decide +kernel) rfl rfl rfl (by decide +kernel)
set_option maxRecDepth 65536 in
theorem w_c2 : (Jvm.Cond.code ({ cls := "com/example/strict_mapper/strictmapper/query/TokenIsSymbolPinLaw", name := "str", desc := "(ICC)Ljava/lang/String;" } : Jvm.MethodName) method_3_code (3 : Nat) (Option.some (Jvm.ClassFile.FieldType.object "java/lang/String"))).before args0 about1 = true := code_word (m := ⟨1, 2⟩) (meth := k1m2) (c := k1c2) (by decide +kernel) rfl rfl rfl (by decide +kernel)
set_option maxRecDepth 65536 in
theorem w_c3 : (Jvm.Cond.code ({ cls := "java/lang/String", name := "<init>", desc := "([C)V" } : Jvm.MethodName) jdk_42_method_3_code (2 : Nat) (Option.none : Option Jvm.ClassFile.FieldType)).before args0 about1 = true := code_word (m := ⟨9, 1⟩) (meth := k9m1) (c := k9c1) (by decide +kernel) rfl rfl rfl (by decide +kernel)
set_option maxRecDepth 65536 in
theorem w_c4 : (Jvm.Cond.code ({ cls := "java/lang/String", name := "<init>", desc := "([CIILjava/lang/Void;)V" } : Jvm.MethodName) jdk_42_method_149_code (6 : Nat) (Option.none : Option Jvm.ClassFile.FieldType)).before args0 about1 = true := code_word (m := ⟨9, 3⟩) (meth := k9m3) (c := k9c3) (by decide +kernel) rfl rfl rfl (by decide +kernel)
set_option maxRecDepth 65536 in
theorem w_c5 : (Jvm.Cond.code ({ cls := "java/lang/Object", name := "<init>", desc := "()V" } : Jvm.MethodName) object_method_1_code (1 : Nat) (Option.none : Option Jvm.ClassFile.FieldType)).before args0 about1 = true := code_word (m := ⟨0, 0⟩) (meth := k0m0) (c := k0c0) (by decide +kernel) rfl rfl rfl (by decide +kernel)
set_option maxRecDepth 65536 in
theorem w_c6 : (Jvm.Cond.code ({ cls := "java/lang/StringUTF16", name := "compress", desc := "([CII)[B" } : Jvm.MethodName) jdk_52_method_16_code (6 : Nat) (Option.some (Jvm.ClassFile.FieldType.array Jvm.ClassFile.FieldType.byte))).before args0 about1 = true := code_word (m := ⟨10, 2⟩) (meth := k10m2) (c := k10c2) (by decide +kernel) rfl rfl rfl (by decide +kernel)
set_option maxRecDepth 65536 in
theorem w_c7 : (Jvm.Cond.code ({ cls := "java/lang/StringUTF16", name := "compress", desc := "([CI[BII)I" } : Jvm.MethodName) jdk_52_method_21_code (7 : Nat) (Option.some Jvm.ClassFile.FieldType.int)).before args0 about1 = true := code_word (m := ⟨10, 3⟩) (meth := k10m3) (c := k10c3) (by decide +kernel) rfl rfl rfl (by decide +kernel)
set_option maxRecDepth 65536 in
theorem w_c8 : (Jvm.Cond.code ({ cls := "java/lang/StringUTF16", name := "coderFromArrayLen", desc := "([BI)B" } : Jvm.MethodName) jdk_52_method_15_code (2 : Nat) (Option.some Jvm.ClassFile.FieldType.byte)).before args0 about1 = true := code_word (m := ⟨10, 1⟩) (meth := k10m1) (c := k10c1) (by decide +kernel) rfl rfl rfl (by decide +kernel)
set_option maxRecDepth 65536 in
theorem w_c9 : (Jvm.Cond.code ({ cls := "com/example/strict_mapper/strictmapper/query/JpqlLexer$Token", name := "<init>", desc := "(Lcom/example/strict_mapper/strictmapper/query/JpqlLexer$Kind;Ljava/lang/String;I)V" } : Jvm.MethodName) prog_21_method_1_code (4 : Nat) (Option.none : Option Jvm.ClassFile.FieldType)).before args0 about1 = true := code_word (m := ⟨12, 0⟩) (meth := k12m0) (c := k12c0) (by decide +kernel) rfl rfl rfl (by decide +kernel)
set_option maxRecDepth 65536 in
theorem w_c10 : (Jvm.Cond.code ({ cls := "java/lang/Record", name := "<init>", desc := "()V" } : Jvm.MethodName) jdk_30_method_1_code (1 : Nat) (Option.none : Option Jvm.ClassFile.FieldType)).before args0 about1 = true := code_word (m := ⟨11, 0⟩) (meth := k11m0) (c := k11c0) (by decide +kernel) rfl rfl rfl (by decide +kernel)
set_option maxRecDepth 65536 in
theorem w_c11 : (Jvm.Cond.code ({ cls := "com/example/strict_mapper/strictmapper/query/JpqlLexer$Token", name := "isSymbol", desc := "(Ljava/lang/String;)Z" } : Jvm.MethodName) prog_21_method_3_code (2 : Nat) (Option.some Jvm.ClassFile.FieldType.boolean)).before args0 about1 = true := code_word (m := ⟨12, 1⟩) (meth := k12m1) (c := k12c1) (by decide +kernel) rfl rfl rfl (by decide +kernel)
set_option maxRecDepth 65536 in
theorem w_c12 : (Jvm.Cond.code ({ cls := "java/lang/String", name := "equals", desc := "(Ljava/lang/Object;)Z" } : Jvm.MethodName) jdk_42_method_66_code (3 : Nat) (Option.some Jvm.ClassFile.FieldType.boolean)).before args0 about1 = true := code_word (m := ⟨9, 2⟩) (meth := k9m2) (c := k9c2) (by decide +kernel) rfl rfl rfl (by decide +kernel)
set_option maxRecDepth 65536 in
theorem w_c13 : (Jvm.Cond.code ({ cls := "java/lang/StringLatin1", name := "equals", desc := "([B[B)Z" } : Jvm.MethodName) jdk_43_method_13_code (3 : Nat) (Option.some Jvm.ClassFile.FieldType.boolean)).before args0 about1 = true := code_word (m := ⟨13, 1⟩) (meth := k13m1) (c := k13c1) (by decide +kernel) rfl rfl rfl (by decide +kernel)
def codes1 : List Jvm.Cond := [Jvm.Cond.code x code maxLocals ret, Jvm.Cond.code ({ cls := "com/example/strict_mapper/strictmapper/query/TokenIsSymbolPinLaw", name := "kindOf", desc := "(I)Lcom/example/strict_mapper/strictmapper/query/JpqlLexer$Kind;" } : Jvm.MethodName) method_2_code (1 : Nat) (Option.some (Jvm.ClassFile.FieldType.object "com/example/strict_mapper/strictmapper/query/JpqlLexer$Kind")), Jvm.Cond.code ({ cls := "com/example/strict_mapper/strictmapper/query/TokenIsSymbolPinLaw", name := "str", desc := "(ICC)Ljava/lang/String;" } : Jvm.MethodName) method_3_code (3 : Nat) (Option.some (Jvm.ClassFile.FieldType.object "java/lang/String")), Jvm.Cond.code ({ cls := "java/lang/String", name := "<init>", desc := "([C)V" } : Jvm.MethodName) jdk_42_method_3_code (2 : Nat) (Option.none : Option Jvm.ClassFile.FieldType), Jvm.Cond.code ({ cls := "java/lang/String", name := "<init>", desc := "([CIILjava/lang/Void;)V" } : Jvm.MethodName) jdk_42_method_149_code (6 : Nat) (Option.none : Option Jvm.ClassFile.FieldType), Jvm.Cond.code ({ cls := "java/lang/Object", name := "<init>", desc := "()V" } : Jvm.MethodName) object_method_1_code (1 : Nat) (Option.none : Option Jvm.ClassFile.FieldType), Jvm.Cond.code ({ cls := "java/lang/StringUTF16", name := "compress", desc := "([CII)[B" } : Jvm.MethodName) jdk_52_method_16_code (6 : Nat) (Option.some (Jvm.ClassFile.FieldType.array Jvm.ClassFile.FieldType.byte)), Jvm.Cond.code ({ cls := "java/lang/StringUTF16", name := "compress", desc := "([CI[BII)I" } : Jvm.MethodName) jdk_52_method_21_code (7 : Nat) (Option.some Jvm.ClassFile.FieldType.int), Jvm.Cond.code ({ cls := "java/lang/StringUTF16", name := "coderFromArrayLen", desc := "([BI)B" } : Jvm.MethodName) jdk_52_method_15_code (2 : Nat) (Option.some Jvm.ClassFile.FieldType.byte), Jvm.Cond.code ({ cls := "com/example/strict_mapper/strictmapper/query/JpqlLexer$Token", name := "<init>", desc := "(Lcom/example/strict_mapper/strictmapper/query/JpqlLexer$Kind;Ljava/lang/String;I)V" } : Jvm.MethodName) prog_21_method_1_code (4 : Nat) (Option.none : Option Jvm.ClassFile.FieldType), Jvm.Cond.code ({ cls := "java/lang/Record", name := "<init>", desc := "()V" } : Jvm.MethodName) jdk_30_method_1_code (1 : Nat) (Option.none : Option Jvm.ClassFile.FieldType), Jvm.Cond.code ({ cls := "com/example/strict_mapper/strictmapper/query/JpqlLexer$Token", name := "isSymbol", desc := "(Ljava/lang/String;)Z" } : Jvm.MethodName) prog_21_method_3_code (2 : Nat) (Option.some Jvm.ClassFile.FieldType.boolean), Jvm.Cond.code ({ cls := "java/lang/String", name := "equals", desc := "(Ljava/lang/Object;)Z" } : Jvm.MethodName) jdk_42_method_66_code (3 : Nat) (Option.some Jvm.ClassFile.FieldType.boolean), Jvm.Cond.code ({ cls := "java/lang/StringLatin1", name := "equals", desc := "([B[B)Z" } : Jvm.MethodName) jdk_43_method_13_code (3 : Nat) (Option.some Jvm.ClassFile.FieldType.boolean)]
set_option maxRecDepth 65536 in
theorem codes_eq : words1.filter isCode = codes1 := rfl
theorem w_codes : ∀ c ∈ words1.filter isCode, c.before args0 about1 = true := by
  rw [codes_eq]
  intro c hc
  simp only [codes1, List.mem_cons, List.not_mem_nil, or_false] at hc
  rcases hc with rfl | rfl | rfl | rfl | rfl | rfl | rfl | rfl | rfl | rfl | rfl | rfl | rfl | rfl
  · exact w_c0
  · exact w_c1
  · exact w_c2
  · exact w_c3
  · exact w_c4
  · exact w_c5
  · exact w_c6
  · exact w_c7
  · exact w_c8
  · exact w_c9
  · exact w_c10
  · exact w_c11
  · exact w_c12
  · exact w_c13
set_option maxRecDepth 65536 in
theorem w_t1 : (words1.take 24).all (fun c => isCode c || c.before args0 about1) = true := by decide +kernel
set_option maxRecDepth 65536 in
theorem w_t2 : ((words1.drop 24).take 24).all (fun c => isCode c || c.before args0 about1) = true := by decide +kernel
set_option maxRecDepth 65536 in
theorem w_t3 : (((words1.drop 24).drop 24).take 24).all (fun c => isCode c || c.before args0 about1) = true := by decide +kernel
set_option maxRecDepth 65536 in
theorem w_t4 : (((words1.drop 24).drop 24).drop 24).all (fun c => isCode c || c.before args0 about1) = true := by decide +kernel
theorem w_tables : (allAtoms (Jvm.Cond.code x code maxLocals ret :: tables_1)).before args0 about1 = true := by
  rw [allAtoms_all]
  show words1.all (fun c => c.before args0 about1) = true
  refine all_split ?_ w_codes
  rw [← List.take_append_drop 24 words1, List.all_append, w_t1, ← List.take_append_drop 24 (words1.drop 24), List.all_append, w_t2, ← List.take_append_drop 24 ((words1.drop 24).drop 24), List.all_append, w_t3, w_t4]
  rfl
set_option maxRecDepth 65536 in
theorem w_rest : rest_1_c.before args0 about1 = true := by decide +kernel
set_option maxRecDepth 65536 in
theorem w_case : (Jvm.Cond.and given_1 narrow_1).before args0 about1 = true := by decide +kernel
set_option maxRecDepth 65536 in
theorem w_consts : constsHeld consts_1 about1 := Jvm.Lit.constsHeldB_iff.mp (by decide +kernel)
theorem w_applies : (headSpec (Jvm.Cond.code x code maxLocals ret :: tables_1) room_1).applies x e0.platform about1 = true :=
  (Spec.applies_iff w_frames).mpr ⟨w_running, w_runnable, w_alone, w_named, w_hears, w_ripe, w_room, w_tables⟩
theorem atStart : AtStart classFile x code maxLocals ret World_1 tables_1 room_1 Calls_1 rest_1 Pre_1 launch0 p0 e0 about1 theMethod args0 below0 :=
  ⟨lists_1, trivial, launch0.admits_env _ _ _, launch0.least_env, fairChoices_fair.cas, fairChoices_fair.clock, w_frames, w_args, w_heap, w_applies, ⟨w_consts, trivial⟩, w_rest, w_case⟩
end start1
theorem witness_1 : WitnessClaimed_1 := ⟨start1.p0, start1.e0, start1.about1, start1.theMethod, start1.args0, start1.below0, start1.atStart⟩
end Jvm.Pilot.@@N@@
