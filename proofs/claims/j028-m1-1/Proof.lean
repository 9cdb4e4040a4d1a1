import JvmDerived
import JvmDerived.Pilot.@@N@@Statement
import JvmDerived.Pilot.@@N@@Code
set_option linter.unusedVariables false
set_option linter.unusedSimpArgs false
namespace Jvm.Pilot.@@N@@
open Jvm Jvm.ClassFile Sem Op Lib Bundle Jvm.Free Jvm.Stand Jvm.LawKit Jvm.RoadKit
/-! ## The walk's own layer: where a run stands (Hr), a method's contract (Ct), one lemma a step. -/
/-- the fixed part of one walk: program, launch, environment, start, method, arguments, frames below, method record, code, the state where the steps begin, the cells that it may write, narrow tables?, known frames? -/
abbrev Cx : Type := Program × Launch × Env × State × MethodId × Array Value × List Frame × Method × Code × State × List Addr × Bool × Bool
abbrev Cx.p (x : Cx) : Program := x.1
abbrev Cx.l (x : Cx) : Launch := x.2.1
abbrev Cx.e (x : Cx) : Env := x.2.2.1
abbrev Cx.s (x : Cx) : State := x.2.2.2.1
abbrev Cx.m (x : Cx) : MethodId := x.2.2.2.2.1
abbrev Cx.args (x : Cx) : Array Value := x.2.2.2.2.2.1
abbrev Cx.below (x : Cx) : List Frame := x.2.2.2.2.2.2.1
abbrev Cx.meth (x : Cx) : Method := x.2.2.2.2.2.2.2.1
abbrev Cx.c (x : Cx) : Code := x.2.2.2.2.2.2.2.2.1
abbrev Cx.B (x : Cx) : State := x.2.2.2.2.2.2.2.2.2.1
abbrev Cx.sf0 (x : Cx) : List Addr := x.2.2.2.2.2.2.2.2.2.2.1
abbrev Cx.nar (x : Cx) : Bool := x.2.2.2.2.2.2.2.2.2.2.2.1
abbrev Cx.kn (x : Cx) : Bool := x.2.2.2.2.2.2.2.2.2.2.2.2
/-- a body: its room, its method's name, bytes, number of locals, what it returns -/
abbrev Bx : Type := Room × MethodName × ByteArray × Nat × Option FieldType
abbrev Bx.R (b : Bx) : Room := b.1
abbrev Bx.y (b : Bx) : MethodName := b.2.1
abbrev Bx.bytes (b : Bx) : ByteArray := b.2.2.1
abbrev Bx.maxL (b : Bx) : Nat := b.2.2.2.1
abbrev Bx.ret (b : Bx) : Option FieldType := b.2.2.2.2
/-- what never moves in a walk -/
def Bs (x : Cx) (b : Bx) (Z : State) (EL : List (String × Nat)) : Prop :=
  (∃ a0, EW Z a0 EL) ∧ x.p.tables.exec = Jvm.exec ∧ x.c.code = b.bytes ∧ x.c.maxLocals = b.maxL ∧ x.meth.sig.returnType = b.ret ∧ x.meth.locks = false ∧ x.meth.name = b.y.name
/-- a cell that the walk may write: made since the walk's start (or handed in), made since the law's start, and no literal's -/
def Mine (x : Cx) (Z : State) (EL : List (String × Nat)) (vm : Vm) (h : Heap) (a : Addr) : Prop := (a ∈ x.sf0 ∨ x.s.heap.size ≤ a) ∧ Z.heap.size ≤ a ∧ a < h.size ∧ Safe Z EL vm h a
/-- what moves, but for the frame -/
def Hx (x : Cx) (b : Bx) (Z : State) (EL : List (String × Nat)) (K S : Nat) (h : Heap) (sf : List Addr) (T : State) (locs : List Loc) (cells slots : Nat) (vm0 : Vm) (k0 : Nat) : Prop :=
  Stand x.p x.l x.e b.R (x.s.setVm vm0) x.m x.args x.below x.meth x.c T locs cells slots ∧ cells ≤ K ∧ slots ≤ S ∧ T.heap = h ∧ Fr Z.heap.size locs ∧
    x.s.Since vm0 k0 ∧ k0 ≤ h.size ∧ Z.Warmed39 vm0 ∧ vm0.findClass b.y.cls = some x.m.cls ∧
    CHr Z EL x.s.vm x.s.heap vm0 h ∧ Keep x.s.heap h x.sf0 ∧ Ext Z.heap h ∧ (∀ a ∈ sf, Mine x Z EL vm0 h a) ∧
    (x.nar = true → x.s.WarmedH vm0) ∧ (x.kn = true → vm0.MethodsKnown ∧ vm0.FramesKnown x.below)
/-- **WHERE THE RUN STANDS**: it has come to the frame (pc, Ls, st), the heap is h; at most K cells and S slots have been made; sf: cells that it may write -/
def Hr (x : Cx) (b : Bx) (Z : State) (EL : List (String × Nat)) (K S : Nat) (h : Heap) (sf : List Addr) (pc : Nat) (Ls : Array Slot) (st : List Value) : Prop :=
  Bs x b Z EL ∧ ∃ (T : State) (locs : List Loc) (cells slots : Nat) (vm0 : Vm) (k0 : Nat), Hx x b Z EL K S h sf T locs cells slots vm0 k0 ∧
    ∀ target, Steps x.p.tables x.e x.below (T.setTop (mkF x.m pc Ls st)) target → Steps x.p.tables x.e x.below x.B target
/-- what an end says: it returned v; Q of it, of the heap and of a list of cells that are the caller's to write; only the cells of sf, and new ones, have been written -/
def Pst (Z : State) (EL : List (String × Nat)) (sf : List Addr) (nar : Bool) (rm : Room) (Q : Option Value → Heap → List Addr → Prop) (U : State) (o : Outcome) (U' : State) : Prop :=
  ∃ (v : Option Value) (L : List Loc) (sn : List Addr), o = .returned v ∧ Q v U'.heap sn ∧ Keep U.heap U'.heap sf ∧ (∀ a ∈ sn, (a ∈ sf ∨ U.heap.size ≤ a) ∧ Z.heap.size ≤ a ∧ a < U'.heap.size ∧ Safe Z EL U'.vm U'.heap a) ∧ Fr Z.heap.size L ∧
    CHr Z EL U.vm U.heap U'.vm U'.heap ∧ (nar = true → U.WarmedH U'.vm) ∧ ReturnedEndW U o U' L rm.cells rm.slots
/-- **A METHOD's CONTRACT** at the arguments as', from the heap h, the cells of sf being its to write -/
def Ct (l : Launch) (Z : State) (EL : List (String × Nat)) (y : MethodName) (bytes : ByteArray) (maxL : Nat) (ret : Option FieldType) (rm : Room) (as' : Array Value) (h : Heap) (sf : List Addr) (nar kn : Bool) (Q : Option Value → Heap → List Addr → Prop) : Prop :=
  ∀ ws : List Jvm.Cond, MetFree l y (head1 (Jvm.Cond.code y bytes maxL ret :: ws) rm) (fun a U => a = as' ∧ Z.Warmed39 U.vm ∧ U.heap = h ∧ CHv Z EL U.vm h ∧ Ext Z.heap h ∧ ∀ a ∈ sf, Z.heap.size ≤ a ∧ a < h.size ∧ Safe Z EL U.vm h a)
    (fun _ _ bl s _ => kn = true → s.vm.MethodsKnown ∧ s.vm.FramesKnown bl) (fun _ U o U' => Pst Z EL sf nar rm Q U o U')
def Ends (x : Cx) (b : Bx) (Z : State) (EL : List (String × Nat)) (Q : Option Value → Heap → List Addr → Prop) : Prop :=
  ∃ (s₂ : State) (o : Outcome), Steps x.p.tables x.e x.below x.B s₂ ∧ s₂.status = .running ∧ Ended s₂ x.below o ∧ Pst Z EL x.sf0 x.nar b.R Q x.s o s₂
section Layer
variable {x : Cx} {b : Bx} {Z : State} {EL : List (String × Nat)} {K S : Nat} {h h' : Heap} {sf : List Addr} {pc pc' : Nat} {Ls Ls' : Array Slot} {st st' : List Value} {a0 : Array Value}
theorem Ext.rfl' (h : Heap) : Ext h h := ⟨Nat.le_refl _, fun _ _ q => q⟩
theorem Ext.tr {h1 h2 h3 : Heap} (A : Ext h1 h2) (B : Ext h2 h3) : Ext h1 h3 := ⟨Nat.le_trans A.1 B.1, fun a c q => B.2 a c (A.2 a c q)⟩
theorem Ext.keep {h1 h2 : Heap} (A : Ext h1 h2) (ws : List Addr) : Keep h1 h2 ws := (Keep.refl _ _).ext A
theorem Ext.ofKeep {h1 h2 h3 : Heap} {ws : List Addr} (A : Ext h1 h2) (B : Keep h2 h3 ws) (q : ∀ a ∈ ws, h1.size ≤ a) : Ext h1 h3 := ⟨Nat.le_trans A.1 B.1, fun a c r => B.2.1 a c (A.2 a c r) fun z => absurd (Array.getElem?_eq_some_iff.mp r).1 (Nat.not_lt.mpr (q a z))⟩
/-- the entry: a contract out of a walk -/
theorem Ct.intro {l : Launch} {y : MethodName} {bytes : ByteArray} {maxL : Nat} {ret : Option FieldType} {rm : Room} {as' : Array Value} {nar kn : Bool} {Q : Option Value → Heap → List Addr → Prop} (hpl : plainFor y = true) (hEL : EW Z a0 EL)
    (hef : ∀ m : MethodId, entryFrame m as' maxL = mkF m 0 Ls [])
    (body : ∀ x : Cx, x.l = l → x.nar = nar → x.kn = kn → x.sf0 = sf → x.s.heap = h → Hr x (rm, y, bytes, maxL, ret) Z EL 0 0 h sf 0 Ls [] → Ends x (rm, y, bytes, maxL, ret) Z EL Q) :
    Ct l Z EL y bytes maxL ret rm as' h sf nar kn Q := by
  intro ws
  refine MetFree.of_bodySF hpl hisR ?_
  intro p e s m args below meth c s₁ Bd hml0 hP hK
  obtain ⟨rfl, hZ, hh, hC, hE, hs⟩ := hP
  have hown : s.vm.findClass y.cls = some m.cls := findClass_of_methodNamed Bd.named
  have hnm := (name_of_methodNamed Bd.named Bd.method).1
  have X0 := Stand.of_body Bd
  have e0 : s₁.heap = h := by rw [← hh, Bd.state]; rfl
  subst hh
  have hF := body (p, l, e, s, m, args, below, meth, c, s₁.setTop (entryFrame m args maxL), sf, nar, kn) rfl rfl rfl rfl rfl
    ⟨⟨⟨_, hEL⟩, Bd.exec, Bd.bytes, hml0, Bd.returns, Bd.notSynchronized, hnm⟩, s₁, [], 0, 0, s.vm, s.heap.size,
      ⟨X0, Nat.le_refl _, Nat.le_refl _, e0, Fr.nil _, (State.WarmedH.refl s).since _, Nat.le_refl _, hZ, hown, CHr.refl hC, Keep.refl _ _, hE, fun a ha => ⟨Or.inl ha, hs a ha⟩, fun _ => State.WarmedH.refl s, hK⟩,
      fun t k => castTop (hef m) k⟩
  exact hF
theorem Hr.base (H : Hr x b Z EL K S h sf pc Ls st) : Bs x b Z EL := H.1
theorem Hr.old (H : Hr x b Z EL K S h sf pc Ls st) : Ext Z.heap h := by obtain ⟨-, T, locs, cells, slots, vm0, k0, X, -⟩ := H; exact X.2.2.2.2.2.2.2.2.2.2.2.1
theorem Hr.kept (H : Hr x b Z EL K S h sf pc Ls st) : Keep x.s.heap h x.sf0 := by obtain ⟨-, T, locs, cells, slots, vm0, k0, X, -⟩ := H; exact X.2.2.2.2.2.2.2.2.2.2.1
theorem Hr.lt {a : Addr} (H : Hr x b Z EL K S h sf pc Ls st) (ha : a ∈ sf) : a < h.size := by obtain ⟨-, T, locs, cells, slots, vm0, k0, X, -⟩ := H; exact (X.2.2.2.2.2.2.2.2.2.2.2.2.1 a ha).2.2.1
theorem Hr.ge {a : Addr} (H : Hr x b Z EL K S h sf pc Ls st) (ha : a ∈ sf) : Z.heap.size ≤ a := by obtain ⟨-, T, locs, cells, slots, vm0, k0, X, -⟩ := H; exact (X.2.2.2.2.2.2.2.2.2.2.2.2.1 a ha).2.1
theorem Hr.since (H : Hr x b Z EL K S h sf pc Ls st) {a : Addr} (ha : a ∈ sf) : a ∈ x.sf0 ∨ x.s.heap.size ≤ a := by obtain ⟨-, T, locs, cells, slots, vm0, k0, X, -⟩ := H; exact (X.2.2.2.2.2.2.2.2.2.2.2.2.1 a ha).1
/-- fewer cells to write, more room said to be used -/
theorem Hr.weaken {K' S' : Nat} {sf' : List Addr} (H : Hr x b Z EL K S h sf pc Ls st) (hK : K ≤ K') (hS : S ≤ S') (hsf : ∀ a ∈ sf', a ∈ sf) : Hr x b Z EL K' S' h sf' pc Ls st := by
  obtain ⟨B, T, locs, cells, slots, vm0, k0, ⟨X, h1, h2, h3, h4, h5, h6, h7, h8, h9, h10, h11, h12, h13, h14⟩, k⟩ := H
  exact ⟨B, T, locs, cells, slots, vm0, k0, ⟨X, Nat.le_trans h1 hK, Nat.le_trans h2 hS, h3, h4, h5, h6, h7, h8, h9, h10, h11, fun a ha => h12 a (hsf a ha), h13, h14⟩, k⟩
/-- a step that moves the frame alone -/
theorem Hr.step (H : Hr x b Z EL K S h sf pc Ls st)
    (f : ∀ T : State, At T x.m x.c x.below → x.p.tables.exec = Jvm.exec → x.c.code = b.bytes → ∀ target, Steps x.p.tables x.e x.below (T.setTop (mkF x.m pc' Ls' st')) target → Steps x.p.tables x.e x.below (T.setTop (mkF x.m pc Ls st)) target) : Hr x b Z EL K S h sf pc' Ls' st' := by
  obtain ⟨B, T, locs, cells, slots, vm0, k0, X, k⟩ := H
  exact ⟨B, T, locs, cells, slots, vm0, k0, X, fun t q => k t (f T X.1.here B.2.1 B.2.2.1 t q)⟩
/-- a step of the library that moves the tables at the most -/
theorem Hr.same (H : Hr x b Z EL K S h sf pc Ls st)
    (f : ∀ (T : State) (locs : List Loc) (cells slots : Nat) (vm0 : Vm), Stand x.p x.l x.e b.R (x.s.setVm vm0) x.m x.args x.below x.meth x.c T locs cells slots → T.heap = h → Z.Warmed39 (x.s.setVm vm0).vm → (x.s.setVm vm0).vm.findClass b.y.cls = some x.m.cls → Bs x b Z EL →
      ∃ T', Stand x.p x.l x.e b.R (x.s.setVm vm0) x.m x.args x.below x.meth x.c T' locs cells slots ∧ T'.heap = h ∧ ∀ target, Steps x.p.tables x.e x.below (T'.setTop (mkF x.m pc' Ls' st')) target → Steps x.p.tables x.e x.below (T.setTop (mkF x.m pc Ls st)) target) : Hr x b Z EL K S h sf pc' Ls' st' := by
  obtain ⟨B, T, locs, cells, slots, vm0, k0, ⟨X, h1, h2, h3, h4, h5, h6, h7, h8, hr⟩, k⟩ := H
  obtain ⟨T', X', e', st1⟩ := f T locs cells slots vm0 X h3 h7 h8 B
  exact ⟨B, T', locs, cells, slots, vm0, k0, ⟨X', h1, h2, e', h4, h5, h6, h7, h8, hr⟩, fun t q => k t (st1 t q)⟩
/-- a step of the library that writes one slot of a cell that is the walk's -/
theorem Hr.write {a : Addr} {sl : Nat} {v : Value} (H : Hr x b Z EL K S h sf pc Ls st) (ha : a ∈ sf)
    (f : ∀ (T : State) (locs : List Loc) (cells slots : Nat) (vm0 : Vm), Stand x.p x.l x.e b.R (x.s.setVm vm0) x.m x.args x.below x.meth x.c T locs cells slots → T.heap = h → Z.Warmed39 (x.s.setVm vm0).vm → (x.s.setVm vm0).vm.findClass b.y.cls = some x.m.cls → Bs x b Z EL →
      ∃ T' h', Stand x.p x.l x.e b.R (x.s.setVm vm0) x.m x.args x.below x.meth x.c T' (locs ++ [⟨a, sl⟩]) cells slots ∧ T'.heap = h' ∧ Wr h h' a sl v ∧ ∀ target, Steps x.p.tables x.e x.below (T'.setTop (mkF x.m pc' Ls' st')) target → Steps x.p.tables x.e x.below (T.setTop (mkF x.m pc Ls st)) target) :
    ∃ h', Wr h h' a sl v ∧ Hr x b Z EL K S h' sf pc' Ls' st' := by
  obtain ⟨B, T, locs, cells, slots, vm0, k0, ⟨X, h1, h2, h3, h4, h5, h6, h7, h8, h9, h10, h11, h12, h13, h14⟩, k⟩ := H
  obtain ⟨T', h', X', e', W, st1⟩ := f T locs cells slots vm0 X h3 h7 h8 B
  have hm := h12 a ha
  have q1 := CHv.wrStep W hm.2.2.2 h9.1
  refine ⟨h', W, B, T', _, cells, slots, vm0, k0, ⟨X', h1, h2, e', Fr.snoc X' h4 hm.2.1, h5, by rw [W.size]; exact h6, h7, h8, h9.trans (CHr.wr W hm.2.2.2 h9.1), h10.wr W hm.1, Ext.ofKeep h11 (Keep.of_wr W) (allS hm.2.1 all0), fun y hy => ?_, h13, h14⟩, fun t q => k t (st1 t q)⟩
  obtain ⟨y1, y2, y3, y4⟩ := h12 y hy
  exact ⟨y1, y2, by rw [W.size]; exact y3, Safe.wr W hm.2.2.2 h9.1 y4⟩
/-- a step of the library that makes one cell -/
theorem Hr.alloc {n : Nat} {P : Heap → Prop} (H : Hr x b Z EL K S h sf pc Ls st) (hc : K + 1 ≤ b.R.cells) (hl : S + n ≤ b.R.slots) (hlt : ∀ h', P h' → h.size < h'.size)
    (f : ∀ (T : State) (locs : List Loc) (cells slots : Nat) (vm0 : Vm), Stand x.p x.l x.e b.R (x.s.setVm vm0) x.m x.args x.below x.meth x.c T locs cells slots → T.heap = h → Z.Warmed39 (x.s.setVm vm0).vm → (x.s.setVm vm0).vm.findClass b.y.cls = some x.m.cls → Bs x b Z EL → cells + 1 ≤ b.R.cells → slots + n ≤ b.R.slots →
      ∃ T' h', Stand x.p x.l x.e b.R (x.s.setVm vm0) x.m x.args x.below x.meth x.c T' locs (cells + 1) (slots + n) ∧ T'.heap = h' ∧ Ext h h' ∧ P h' ∧ ∀ target, Steps x.p.tables x.e x.below (T'.setTop (mkF x.m pc' Ls' st')) target → Steps x.p.tables x.e x.below (T.setTop (mkF x.m pc Ls st)) target) :
    ∃ h', Ext h h' ∧ P h' ∧ Hr x b Z EL (K + 1) (S + n) h' (h.size :: sf) pc' Ls' st' := by
  obtain ⟨B, T, locs, cells, slots, vm0, k0, ⟨X, h1, h2, h3, h4, h5, h6, h7, h8, h9, h10, h11, h12, h13, h14⟩, k⟩ := H
  obtain ⟨T', h', X', e', E, hp, st1⟩ := f T locs cells slots vm0 X h3 h7 h8 B (by omega) (by omega)
  refine ⟨h', E, hp, B, T', _, _, _, vm0, k0, ⟨X', by omega, by omega, e', h4, h5, Nat.le_trans h6 E.1, h7, h8, h9.trans (CHr.ext E h9.1), h10.ext E, Ext.tr h11 E, fun y hy => ?_, h13, h14⟩, fun t q => k t (st1 t q)⟩
  rcases List.mem_cons.mp hy with rfl | hy
  · exact ⟨Or.inr h10.1, h11.1, hlt h' hp, Safe.ext E h9.1 (Safe.new (Nat.le_refl _))⟩
  · obtain ⟨y1, y2, y3, y4⟩ := h12 y hy
    exact ⟨y1, y2, Nat.lt_of_lt_of_le y3 E.1, Safe.ext E h9.1 y4⟩
/-- the payer: a contract as the library's calls take it -/
theorem Ct.backS {l : Launch} {y : MethodName} {bytes : ByteArray} {maxL : Nat} {ret : Option FieldType} {rm : Room} {as' : Array Value} {nar kn : Bool} {Q : Option Value → Heap → List Addr → Prop} (C : Ct l Z EL y bytes maxL ret rm as' h sf nar kn Q)
    {p : Program} {e : Env} {R : Room} {below : List Frame} {s : State} {vm0 : Vm} {args a1 : Array Value} {len W : Nat} (hZ : Z.Warmed39 vm0) (wc : (Jvm.Cond.code y bytes maxL ret).before a0 Z = true) (wz : (Jvm.Cond.initialized y.cls).before a0 Z = true) (hf : rm.frames + 1 ≤ R.frames) (hl : W + (maxL + 11) + rm.locals ≤ R.locals)
    (hEL : EW Z a1 EL) (H : CHv Z EL vm0 h) (hE : Ext Z.heap h) (hsf : ∀ a ∈ sf, Z.heap.size ≤ a ∧ a < h.size ∧ Safe Z EL vm0 h a) (hkn : kn = true → vm0.MethodsKnown ∧ vm0.FramesKnown below) :
    BackS l R p e below (s.setVm vm0) args y len W (fun A a => a = as' ∧ A.U.heap = h ∧ A.cells + rm.cells ≤ R.cells ∧ A.slots + rm.slots ≤ R.slots)
      (fun A _ v B => ∃ (L : List Loc) (sn : List Addr), Q v B.U.heap sn ∧ Keep h B.U.heap sf ∧ (∀ a ∈ sn, (a ∈ sf ∨ h.size ≤ a) ∧ Z.heap.size ≤ a ∧ a < B.U.heap.size ∧ Safe Z EL B.U.vm B.U.heap a) ∧ Fr Z.heap.size L ∧ B.locs = A.locs ++ L ∧ B.cells = A.cells + rm.cells ∧ B.slots = A.slots + rm.slots ∧
        CHr Z EL vm0 h B.U.vm B.U.heap ∧ (nar = true → (s.setVm vm0).WarmedH B.U.vm)) :=
  BackS.of_freeWG (bytes := bytes) (maxL := maxL) (ret := ret)
    (E := fun _ first o t L k n => k = rm.cells ∧ n = rm.slots ∧ ∃ (v : Option Value) (sn : List Addr), o = .returned v ∧ Q v t.heap sn ∧ Keep first.heap t.heap sf ∧ (∀ a ∈ sn, (a ∈ sf ∨ first.heap.size ≤ a) ∧ Z.heap.size ≤ a ∧ a < t.heap.size ∧ Safe Z EL t.vm t.heap a) ∧ Fr Z.heap.size L ∧ CHr Z EL first.vm first.heap t.vm t.heap ∧ (nar = true → first.WarmedH t.vm)) (C []) hf hl
    (fun m meth c A a Y hp => have hU : Z.Warmed39 A.U.vm := wtrans (s := s.setVm vm0) hZ Y.warmed
      ⟨by show (Jvm.Cond.and _ .tt).before a A.U = true; rw [Cond.before_and, mv hU wc]; rfl, mv hU wc, mv hU wz, hp.2.2.1, hp.2.2.2⟩)
    (fun m meth c A a g mk Y hp => ⟨hp.1, wtrans (s := s.setVm vm0) hZ Y.warmed, hp.2.1, (CHv.at Y hZ hEL H).1, hE, fun z hz => ⟨(hsf z hz).1, (hsf z hz).2.1, (CHv.at Y hZ hEL H).safe (hsf z hz).2.1 (hsf z hz).2.2⟩⟩)
    (fun m meth c A a g mk Y _ hg hk => known_frames Y hg (hkn hk).1 (hkn hk).2)
    (fun _ _ _ _ ⟨v, L, sn, q1, q2, q3, q4, q5, q6, q7, q8⟩ => ⟨L, _, _, q8, rfl, rfl, v, sn, q1, q2, q3, q4, q5, q6, q7⟩)
    (fun m meth c A a g mk v t L k n Y hp _ _ ⟨e1, e2, v', sn, q1, q2, q3, q4, q5, q6, q7⟩ => by
      cases q1; subst e1 e2
      obtain ⟨-, rfl, -⟩ := hp
      exact ⟨L, sn, q2, q3, q4, q5, rfl, rfl, rfl, (CHv.at Y hZ hEL H).trans q6, fun hn => State.WarmedH.trans (t := A.U) Y.warmed (q7 hn)⟩)
/-- behind a call: from what the library hands out to where the run stands -/
theorem Hr.after {rm : Room} {sf' : List Addr} {Q : Option Value → Heap → List Addr → Prop} (B : Bs x b Z EL) {T : State} {locs : List Loc} {cells slots : Nat} {vm0 : Vm} {k0 : Nat} (X : Hx x b Z EL K S h sf T locs cells slots vm0 k0)
    (k : ∀ target, Steps x.p.tables x.e x.below (T.setTop (mkF x.m pc Ls st)) target → Steps x.p.tables x.e x.below x.B target) (sub : ∀ a ∈ sf', a ∈ sf)
    {P : Pt} (X' : Stand x.p x.l x.e b.R ((x.s.setVm vm0).setVm P.U.vm) x.m x.args x.below x.meth x.c P.U P.locs P.cells P.slots) (hS : (x.s.setVm vm0).Since P.U.vm P.U.heap.size) (hgr : T.heap.size ≤ P.U.heap.size) {v : Option Value}
    (hp : ∃ (L : List Loc) (sn : List Addr), Q v P.U.heap sn ∧ Keep h P.U.heap sf' ∧ (∀ a ∈ sn, (a ∈ sf' ∨ h.size ≤ a) ∧ Z.heap.size ≤ a ∧ a < P.U.heap.size ∧ Safe Z EL P.U.vm P.U.heap a) ∧ Fr Z.heap.size L ∧ P.locs = locs ++ L ∧ P.cells = cells + rm.cells ∧ P.slots = slots + rm.slots ∧
        CHr Z EL vm0 h P.U.vm P.U.heap ∧ (x.nar = true → (x.s.setVm vm0).WarmedH P.U.vm))
    (hst : Steps x.p.tables x.e x.below (T.setTop (mkF x.m pc Ls st)) (P.U.setTop (mkF x.m pc' Ls st'))) :
    ∃ (h' : Heap) (sn : List Addr), Q v h' sn ∧ Keep h h' sf' ∧ Hr x b Z EL (K + rm.cells) (S + rm.slots) h' (sn ++ sf) pc' Ls st' := by
  obtain ⟨X, h1, h2, h3, h4, h5, h6, h7, h8, h9, h10, h11, h12, h13, h14⟩ := X
  obtain ⟨L, sn, q1, q2, q3, q4, q5, q6, q7, q8, q9⟩ := hp
  have hsf0 : ∀ z ∈ sf', z ∈ x.sf0 ∨ x.s.heap.size ≤ z := fun z hz => (h12 z (sub z hz)).1
  refine ⟨_, sn, q1, q2, B, P.U, P.locs, P.cells, P.slots, P.U.vm, P.U.heap.size, ⟨X', by omega, by omega, rfl, by rw [q5]; exact h4.app q4, h5.trans hS (by rw [h3] at hgr; exact Nat.le_trans h6 hgr), Nat.le_refl _, State.Warmed39.trans (t := x.s.setVm vm0) h7 hS.1, (hS.1.alike.findClass _ _).trans h8, h9.trans q8, h10.trans q2 hsf0,
    Ext.ofKeep h11 q2 (fun z hz => (h12 z (sub z hz)).2.1), fun z hz => ?_, fun hn => State.WarmedH.trans (t := x.s.setVm vm0) (h13 hn) (q9 hn), fun hk => ⟨Vm.MethodsKnown.alikeC hS.1.alike (h14 hk).1, Vm.FramesKnown.alikeC hS.1.alike (h14 hk).2⟩⟩, fun t q => k t (hst.trans q)⟩
  rcases List.mem_append.mp hz with hz | hz
  · obtain ⟨z1, z2, z3, z4⟩ := q3 z hz
    refine ⟨z1.elim (hsf0 z) (fun q => Or.inr (Nat.le_trans h10.1 q)), z2, z3, z4⟩
  · obtain ⟨z1, z2, z3, z4⟩ := h12 z hz
    exact ⟨z1, z2, Nat.lt_of_lt_of_le z3 q2.1, q8.safe z3 z4⟩
end Layer
end Jvm.Pilot.@@N@@
namespace Jvm.Pilot.@@N@@
open Jvm Jvm.ClassFile Sem Op Lib Bundle Jvm.Free Jvm.Stand Jvm.LawKit Jvm.RoadKit
section Layer2
variable {x : Cx} {b : Bx} {Z : State} {EL : List (String × Nat)} {K S : Nat} {h h' : Heap} {sf : List Addr} {pc pc' : Nat} {Ls Ls' : Array Slot} {st st' : List Value} {a0 : Array Value}
/-! ### plain steps -/
theorem Hr.iloadN {k : Fin 4} {v : Int32} (H : Hr x b Z EL K S h sf pc Ls st) (hd : decode b.bytes pc = .ok (.iload_n k, 1)) (hl : Ls[k.val]? = some (.val (.int v)) := by rfl) (hpc : pc + 1 = pc' := by rfl) : Hr x b Z EL K S h sf pc' Ls (.int v :: st) := by
  subst hpc; exact H.step fun T A hx hby t q => XS.iloadN A hx rfl (hb hby hd) hl q
theorem Hr.iload {k : Nat} {v : Int32} (H : Hr x b Z EL K S h sf pc Ls st) (hd : decode b.bytes pc = .ok (.iload k, 2)) (hl : Ls[k]? = some (.val (.int v)) := by rfl) (hpc : pc + 2 = pc' := by rfl) : Hr x b Z EL K S h sf pc' Ls (.int v :: st) := by
  subst hpc; exact H.step fun T A hx hby t q => XS.iload A hx rfl (hb hby hd) hl q
theorem Hr.aloadN {k : Fin 4} {v : Value} (H : Hr x b Z EL K S h sf pc Ls st) (hd : decode b.bytes pc = .ok (.aload_n k, 1)) (hl : Ls[k.val]? = some (.val v) := by rfl) (hv : v.isRef = true := by rfl) (hpc : pc + 1 = pc' := by rfl) : Hr x b Z EL K S h sf pc' Ls (v :: st) := by
  subst hpc; exact H.step fun T A hx hby t q => XS.aloadN A hx rfl (hb hby hd) hl hv q
theorem Hr.aload {k : Nat} {v : Value} (H : Hr x b Z EL K S h sf pc Ls st) (hd : decode b.bytes pc = .ok (.aload k, 2)) (hl : Ls[k]? = some (.val v) := by rfl) (hv : v.isRef = true := by rfl) (hpc : pc + 2 = pc' := by rfl) : Hr x b Z EL K S h sf pc' Ls (v :: st) := by
  subst hpc; exact H.step fun T A hx hby t q => XS.aload A hx rfl (hb hby hd) hl hv q
theorem Hr.iconst {i : Int} {v : Int32} (H : Hr x b Z EL K S h sf pc Ls st) (hd : decode b.bytes pc = .ok (.iconst i, 1)) (hv : Int32.ofInt i = v := by first | rfl | decide) (hpc : pc + 1 = pc' := by rfl) : Hr x b Z EL K S h sf pc' Ls (.int v :: st) := by
  subst hpc hv; exact H.step fun T A hx hby t q => XS.iconst A hx rfl (hb hby hd) q
theorem Hr.bipush {i : Int} {v : Int32} (H : Hr x b Z EL K S h sf pc Ls st) (hd : decode b.bytes pc = .ok (.bipush i, 2)) (hv : (Int8.ofInt i).toInt32 = v := by first | rfl | decide) (hpc : pc + 2 = pc' := by rfl) : Hr x b Z EL K S h sf pc' Ls (.int v :: st) := by
  subst hpc hv; exact H.step fun T A hx hby t q => XS.bipush A hx rfl (hb hby hd) q
theorem Hr.sipush {i : Int} {v : Int32} (H : Hr x b Z EL K S h sf pc Ls st) (hd : decode b.bytes pc = .ok (.sipush i, 3)) (hv : (Int16.ofInt i).toInt32 = v := by first | rfl | decide) (hpc : pc + 3 = pc' := by rfl) : Hr x b Z EL K S h sf pc' Ls (.int v :: st) := by
  subst hpc hv; exact H.step fun T A hx hby t q => XS.sipush A hx rfl (hb hby hd) q
theorem Hr.aconstNull (H : Hr x b Z EL K S h sf pc Ls st) (hd : decode b.bytes pc = .ok (.aconst_null, 1)) (hpc : pc + 1 = pc' := by rfl) : Hr x b Z EL K S h sf pc' Ls (.null :: st) := by
  subst hpc; exact H.step fun T A hx hby t q => XS.aconstNull A hx rfl (hb hby hd) q
theorem Hr.iadd {u w v : Int32} (H : Hr x b Z EL K S h sf pc Ls (.int w :: .int u :: st)) (hd : decode b.bytes pc = .ok (.iadd, 1)) (hv : u + w = v := by rfl) (hpc : pc + 1 = pc' := by rfl) : Hr x b Z EL K S h sf pc' Ls (.int v :: st) := by
  subst hpc hv; exact H.step fun T A hx hby t q => XS.iadd A hx rfl (hb hby hd) rfl q
theorem Hr.isub {u w v : Int32} (H : Hr x b Z EL K S h sf pc Ls (.int w :: .int u :: st)) (hd : decode b.bytes pc = .ok (.isub, 1)) (hv : u - w = v := by rfl) (hpc : pc + 1 = pc' := by rfl) : Hr x b Z EL K S h sf pc' Ls (.int v :: st) := by
  subst hpc hv; exact H.step fun T A hx hby t q => XS.isub A hx rfl (hb hby hd) rfl q
theorem Hr.imul {u w v : Int32} (H : Hr x b Z EL K S h sf pc Ls (.int w :: .int u :: st)) (hd : decode b.bytes pc = .ok (.imul, 1)) (hv : u * w = v := by rfl) (hpc : pc + 1 = pc' := by rfl) : Hr x b Z EL K S h sf pc' Ls (.int v :: st) := by
  subst hpc hv; exact H.step fun T A hx hby t q => XS.imul A hx rfl (hb hby hd) rfl q
theorem Hr.iand {u w v : Int32} (H : Hr x b Z EL K S h sf pc Ls (.int w :: .int u :: st)) (hd : decode b.bytes pc = .ok (.iand, 1)) (hv : u &&& w = v := by rfl) (hpc : pc + 1 = pc' := by rfl) : Hr x b Z EL K S h sf pc' Ls (.int v :: st) := by
  subst hpc hv; exact H.step fun T A hx hby t q => XS.iand A hx rfl (hb hby hd) rfl q
theorem Hr.ior {u w v : Int32} (H : Hr x b Z EL K S h sf pc Ls (.int w :: .int u :: st)) (hd : decode b.bytes pc = .ok (.ior, 1)) (hv : u ||| w = v := by rfl) (hpc : pc + 1 = pc' := by rfl) : Hr x b Z EL K S h sf pc' Ls (.int v :: st) := by
  subst hpc hv; exact H.step fun T A hx hby t q => XT.ior A hx rfl (hb hby hd) rfl q
theorem Hr.ixor {u w v : Int32} (H : Hr x b Z EL K S h sf pc Ls (.int w :: .int u :: st)) (hd : decode b.bytes pc = .ok (.ixor, 1)) (hv : u ^^^ w = v := by rfl) (hpc : pc + 1 = pc' := by rfl) : Hr x b Z EL K S h sf pc' Ls (.int v :: st) := by
  subst hpc hv; exact H.step fun T A hx hby t q => XT.ixor A hx rfl (hb hby hd) rfl q
theorem Hr.ishl {u w v : Int32} (H : Hr x b Z EL K S h sf pc Ls (.int w :: .int u :: st)) (hd : decode b.bytes pc = .ok (.ishl, 1)) (hv : u <<< (w &&& 31) = v := by rfl) (hpc : pc + 1 = pc' := by rfl) : Hr x b Z EL K S h sf pc' Ls (.int v :: st) := by
  subst hpc hv; exact H.step fun T A hx hby t q => XT.ishl A hx rfl (hb hby hd) rfl q
theorem Hr.ishr {u w v : Int32} (H : Hr x b Z EL K S h sf pc Ls (.int w :: .int u :: st)) (hd : decode b.bytes pc = .ok (.ishr, 1)) (hv : u >>> (w &&& 31) = v := by rfl) (hpc : pc + 1 = pc' := by rfl) : Hr x b Z EL K S h sf pc' Ls (.int v :: st) := by
  subst hpc hv; exact H.step fun T A hx hby t q => XT.ishr A hx rfl (hb hby hd) rfl q
theorem Hr.iushr {u w v : Int32} (H : Hr x b Z EL K S h sf pc Ls (.int w :: .int u :: st)) (hd : decode b.bytes pc = .ok (.iushr, 1)) (hv : (u.toUInt32 >>> (w &&& 31).toUInt32).toInt32 = v := by rfl) (hpc : pc + 1 = pc' := by rfl) : Hr x b Z EL K S h sf pc' Ls (.int v :: st) := by
  subst hpc hv; exact H.step fun T A hx hby t q => XT.iushr A hx rfl (hb hby hd) rfl q
theorem Hr.ineg {u v : Int32} (H : Hr x b Z EL K S h sf pc Ls (.int u :: st)) (hd : decode b.bytes pc = .ok (.ineg, 1)) (hv : -u = v := by rfl) (hpc : pc + 1 = pc' := by rfl) : Hr x b Z EL K S h sf pc' Ls (.int v :: st) := by
  subst hpc hv; exact H.step fun T A hx hby t q => XS.ineg A hx rfl (hb hby hd) rfl q
theorem Hr.irem {u w v : Int32} (H : Hr x b Z EL K S h sf pc Ls (.int w :: .int u :: st)) (hd : decode b.bytes pc = .ok (.irem, 1)) (hw : w ≠ 0) (hv : u % w = v := by rfl) (hpc : pc + 1 = pc' := by rfl) : Hr x b Z EL K S h sf pc' Ls (.int v :: st) := by
  subst hpc hv; exact H.step fun T A hx hby t q => XS.irem A hx rfl (hb hby hd) rfl hw (by rw [irem_eq_mod]; exact q)
theorem Hr.idiv {u w v : Int32} (H : Hr x b Z EL K S h sf pc Ls (.int w :: .int u :: st)) (hd : decode b.bytes pc = .ok (.idiv, 1)) (hw : w ≠ 0) (hv : u / w = v := by rfl) (hpc : pc + 1 = pc' := by rfl) : Hr x b Z EL K S h sf pc' Ls (.int v :: st) := by
  subst hpc hv; exact H.step fun T A hx hby t q => XS.idiv A hx rfl (hb hby hd) rfl hw q
theorem Hr.i2c {u v : Int32} (H : Hr x b Z EL K S h sf pc Ls (.int u :: st)) (hd : decode b.bytes pc = .ok (.i2c, 1)) (hv : u.toUInt32.toUInt16.toUInt32.toInt32 = v := by rfl) (hpc : pc + 1 = pc' := by rfl) : Hr x b Z EL K S h sf pc' Ls (.int v :: st) := by
  subst hpc hv; exact H.step fun T A hx hby t q => XT.i2c A hx rfl (hb hby hd) rfl q
theorem Hr.i2b {u v : Int32} (H : Hr x b Z EL K S h sf pc Ls (.int u :: st)) (hd : decode b.bytes pc = .ok (.i2b, 1)) (hv : u.toInt8.toInt32 = v := by rfl) (hpc : pc + 1 = pc' := by rfl) : Hr x b Z EL K S h sf pc' Ls (.int v :: st) := by
  subst hpc hv; exact H.step fun T A hx hby t q => XT.i2b A hx rfl (hb hby hd) rfl q
theorem Hr.dup {v : Value} (H : Hr x b Z EL K S h sf pc Ls (v :: st)) (hd : decode b.bytes pc = .ok (.dup, 1)) (hc : v.category = 1 := by rfl) (hpc : pc + 1 = pc' := by rfl) : Hr x b Z EL K S h sf pc' Ls (v :: v :: st) := by
  subst hpc; exact H.step fun T A hx hby t q => XS.dup A hx rfl (hb hby hd) rfl hc q
theorem Hr.dupX1 {v w : Value} (H : Hr x b Z EL K S h sf pc Ls (v :: w :: st)) (hd : decode b.bytes pc = .ok (.dup_x1, 1)) (hc : v.category = 1 := by rfl) (hc' : w.category = 1 := by rfl) (hpc : pc + 1 = pc' := by rfl) : Hr x b Z EL K S h sf pc' Ls (v :: w :: v :: st) := by
  subst hpc; exact H.step fun T A hx hby t q => XT.dupX1 A hx rfl (hb hby hd) rfl hc hc' q
theorem Hr.pop {v : Value} (H : Hr x b Z EL K S h sf pc Ls (v :: st)) (hd : decode b.bytes pc = .ok (.pop, 1)) (hc : v.category = 1 := by rfl) (hpc : pc + 1 = pc' := by rfl) : Hr x b Z EL K S h sf pc' Ls st := by
  subst hpc; exact H.step fun T A hx hby t q => XT.pop A hx rfl (hb hby hd) rfl hc q
theorem Hr.istoreN {k : Fin 4} {v : Int32} (H : Hr x b Z EL K S h sf pc Ls (.int v :: st)) (hd : decode b.bytes pc = .ok (.istore_n k, 1)) (hl : storeLocals Ls k.val (.int v) = some Ls' := by rfl) (hpc : pc + 1 = pc' := by rfl) : Hr x b Z EL K S h sf pc' Ls' st := by
  subst hpc; exact H.step fun T A hx hby t q => XS.istoreN A hx rfl (hb hby hd) rfl hl q
theorem Hr.istore {k : Nat} {v : Int32} (H : Hr x b Z EL K S h sf pc Ls (.int v :: st)) (hd : decode b.bytes pc = .ok (.istore k, 2)) (hl : storeLocals Ls k (.int v) = some Ls' := by rfl) (hpc : pc + 2 = pc' := by rfl) : Hr x b Z EL K S h sf pc' Ls' st := by
  subst hpc; exact H.step fun T A hx hby t q => XS.istore A hx rfl (hb hby hd) rfl hl q
theorem Hr.astoreN {k : Fin 4} {v : Value} (H : Hr x b Z EL K S h sf pc Ls (v :: st)) (hd : decode b.bytes pc = .ok (.astore_n k, 1)) (hl : storeLocals Ls k.val v = some Ls' := by rfl) (hv : v.isRef = true := by rfl) (hpc : pc + 1 = pc' := by rfl) : Hr x b Z EL K S h sf pc' Ls' st := by
  subst hpc; exact H.step fun T A hx hby t q => XS.astoreN A hx rfl (hb hby hd) rfl hv hl q
theorem Hr.astore {k : Nat} {v : Value} (H : Hr x b Z EL K S h sf pc Ls (v :: st)) (hd : decode b.bytes pc = .ok (.astore k, 2)) (hl : storeLocals Ls k v = some Ls' := by rfl) (hv : v.isRef = true := by rfl) (hpc : pc + 2 = pc' := by rfl) : Hr x b Z EL K S h sf pc' Ls' st := by
  subst hpc; exact H.step fun T A hx hby t q => XS.astore A hx rfl (hb hby hd) rfl hv hl q
theorem Hr.iinc {k : Nat} {cst : Int} {u v : Int32} (H : Hr x b Z EL K S h sf pc Ls st) (hd : decode b.bytes pc = .ok (.iinc k cst, 3)) (hl : Ls[k]? = some (.val (.int u)) := by rfl) (hv : u + Int32.ofInt cst = v := by rfl) (hl' : storeLocals Ls k (.int v) = some Ls' := by rfl) (hpc : pc + 3 = pc' := by rfl) : Hr x b Z EL K S h sf pc' Ls' st := by
  subst hpc hv; exact H.step fun T A hx hby t q => XS.iinc A hx rfl (hb hby hd) hl hl' q
theorem Hr.goto {o : Int} (H : Hr x b Z EL K S h sf pc Ls st) (hd : decode b.bytes pc = .ok (.goto o, 3)) (hp : ((pc : Int) + o).toNat = pc' := by decide) (ho : 0 ≤ (pc : Int) + o := by decide) : Hr x b Z EL K S h sf pc' Ls st := by
  exact H.step fun T A hx hby t q => XS.goto A hx rfl (pc0 := pc) rfl (hb hby hd) ho hp q
theorem Hr.ifT {cd : ClassFile.Cond} {o : Int} {u : Int32} (H : Hr x b Z EL K S h sf pc Ls (.int u :: st)) (hd : decode b.bytes pc = .ok (.ifCond cd o, 3)) (hc : ifCond.holds cd u = true) (hp : ((pc : Int) + o).toNat = pc' := by decide) (ho : 0 ≤ (pc : Int) + o := by decide) : Hr x b Z EL K S h sf pc' Ls st := by
  exact H.step fun T A hx hby t q => XS.ifYes A hx rfl (pc0 := pc) rfl (hb hby hd) rfl hc ho hp q
theorem Hr.ifF {cd : ClassFile.Cond} {o : Int} {u : Int32} (H : Hr x b Z EL K S h sf pc Ls (.int u :: st)) (hd : decode b.bytes pc = .ok (.ifCond cd o, 3)) (hc : ifCond.holds cd u = false) (hpc : pc + 3 = pc' := by rfl) : Hr x b Z EL K S h sf pc' Ls st := by
  subst hpc; exact H.step fun T A hx hby t q => XS.ifNo A hx rfl (hb hby hd) rfl hc q
theorem Hr.icmpT {cd : ClassFile.Cond} {o : Int} {u w : Int32} (H : Hr x b Z EL K S h sf pc Ls (.int w :: .int u :: st)) (hd : decode b.bytes pc = .ok (.if_icmp cd o, 3)) (hc : if_icmp.holds cd u w = true) (hp : ((pc : Int) + o).toNat = pc' := by decide) (ho : 0 ≤ (pc : Int) + o := by decide) : Hr x b Z EL K S h sf pc' Ls st := by
  exact H.step fun T A hx hby t q => XS.icmpYes A hx rfl (pc0 := pc) rfl (hb hby hd) rfl hc ho hp q
theorem Hr.icmpF {cd : ClassFile.Cond} {o : Int} {u w : Int32} (H : Hr x b Z EL K S h sf pc Ls (.int w :: .int u :: st)) (hd : decode b.bytes pc = .ok (.if_icmp cd o, 3)) (hc : if_icmp.holds cd u w = false) (hpc : pc + 3 = pc' := by rfl) : Hr x b Z EL K S h sf pc' Ls st := by
  subst hpc; exact H.step fun T A hx hby t q => XS.icmpNo A hx rfl (hb hby hd) rfl hc q
theorem Hr.acmpT {cd : ClassFile.ACond} {o : Int} {u w : Value} (H : Hr x b Z EL K S h sf pc Ls (w :: u :: st)) (hd : decode b.bytes pc = .ok (.if_acmp cd o, 3)) (hc : XT.acmp cd u w = true) (hu : u.isRef = true := by rfl) (hw : w.isRef = true := by rfl) (hp : ((pc : Int) + o).toNat = pc' := by decide) (ho : 0 ≤ (pc : Int) + o := by decide) : Hr x b Z EL K S h sf pc' Ls st := by
  exact H.step fun T A hx hby t q => XT.acmpYes A hx rfl (pc0 := pc) rfl (hb hby hd) rfl hu hw hc ho hp q
theorem Hr.acmpF {cd : ClassFile.ACond} {o : Int} {u w : Value} (H : Hr x b Z EL K S h sf pc Ls (w :: u :: st)) (hd : decode b.bytes pc = .ok (.if_acmp cd o, 3)) (hc : XT.acmp cd u w = false) (hu : u.isRef = true := by rfl) (hw : w.isRef = true := by rfl) (hpc : pc + 3 = pc' := by rfl) : Hr x b Z EL K S h sf pc' Ls st := by
  subst hpc; exact H.step fun T A hx hby t q => XT.acmpNo A hx rfl (hb hby hd) rfl hu hw hc q
theorem Hr.ifnullT {o : Int} (H : Hr x b Z EL K S h sf pc Ls (.null :: st)) (hd : decode b.bytes pc = .ok (.ifnull o, 3)) (hp : ((pc : Int) + o).toNat = pc' := by decide) (ho : 0 ≤ (pc : Int) + o := by decide) : Hr x b Z EL K S h sf pc' Ls st := by
  exact H.step fun T A hx hby t q => XS.ifnullYes A hx rfl (pc0 := pc) rfl (hb hby hd) rfl ho hp q
theorem Hr.ifnullF {o : Int} {a : Addr} (H : Hr x b Z EL K S h sf pc Ls (.ref a :: st)) (hd : decode b.bytes pc = .ok (.ifnull o, 3)) (hpc : pc + 3 = pc' := by rfl) : Hr x b Z EL K S h sf pc' Ls st := by
  subst hpc; exact H.step fun T A hx hby t q => XS.ifnullNo A hx rfl (hb hby hd) rfl q
theorem Hr.ifnonnullT {o : Int} {a : Addr} (H : Hr x b Z EL K S h sf pc Ls (.ref a :: st)) (hd : decode b.bytes pc = .ok (.ifnonnull o, 3)) (hp : ((pc : Int) + o).toNat = pc' := by decide) (ho : 0 ≤ (pc : Int) + o := by decide) : Hr x b Z EL K S h sf pc' Ls st := by
  exact H.step fun T A hx hby t q => XT.ifnonnullYes A hx rfl (pc0 := pc) rfl (hb hby hd) rfl ho hp q
theorem Hr.ifnonnullF {o : Int} (H : Hr x b Z EL K S h sf pc Ls (.null :: st)) (hd : decode b.bytes pc = .ok (.ifnonnull o, 3)) (hpc : pc + 3 = pc' := by rfl) : Hr x b Z EL K S h sf pc' Ls st := by
  subst hpc; exact H.step fun T A hx hby t q => XT.ifnonnullNo A hx rfl (hb hby hd) rfl q
/-! ### longs -/
theorem Hr.lloadN {k : Fin 4} {v : Int64} (H : Hr x b Z EL K S h sf pc Ls st) (hd : decode b.bytes pc = .ok (.lload_n k, 1)) (hl : Ls[k.val]? = some (.val (.long v)) := by rfl) (hpc : pc + 1 = pc' := by rfl) : Hr x b Z EL K S h sf pc' Ls (.long v :: st) := by
  subst hpc; exact H.step fun T A hx hby t q => XT.lloadN A hx rfl (hb hby hd) hl q
theorem Hr.lushr {u : Int64} {w : Int32} {v : Int64} (H : Hr x b Z EL K S h sf pc Ls (.int w :: .long u :: st)) (hd : decode b.bytes pc = .ok (.lushr, 1)) (hv : XT.ushrL u w = v := by rfl) (hpc : pc + 1 = pc' := by rfl) : Hr x b Z EL K S h sf pc' Ls (.long v :: st) := by
  subst hpc hv; exact H.step fun T A hx hby t q => XT.lushr A hx rfl (hb hby hd) rfl q
theorem Hr.land {u w v : Int64} (H : Hr x b Z EL K S h sf pc Ls (.long w :: .long u :: st)) (hd : decode b.bytes pc = .ok (.land, 1)) (hv : u &&& w = v := by rfl) (hpc : pc + 1 = pc' := by rfl) : Hr x b Z EL K S h sf pc' Ls (.long v :: st) := by
  subst hpc hv; exact H.step fun T A hx hby t q => XT.land A hx rfl (hb hby hd) rfl q
theorem Hr.l2i {u : Int64} {v : Int32} (H : Hr x b Z EL K S h sf pc Ls (.long u :: st)) (hd : decode b.bytes pc = .ok (.l2i, 1)) (hv : u.toInt32 = v := by rfl) (hpc : pc + 1 = pc' := by rfl) : Hr x b Z EL K S h sf pc' Ls (.int v :: st) := by
  subst hpc hv; exact H.step fun T A hx hby t q => XT.l2i A hx rfl (hb hby hd) rfl q
/-! ### constants, fields, statics, casts -/
theorem Hr.ldcI {index : Nat} {v : Int32} (H : Hr x b Z EL K S h sf pc Ls st) (w : (Jvm.Cond.constant b.y.cls index v).before a0 Z = true) (hd : decode b.bytes pc = .ok (.ldc index, 2)) (hpc : pc + 2 = pc' := by rfl) : Hr x b Z EL K S h sf pc' Ls (.int v :: st) := by
  subst hpc
  exact H.same fun T locs cells slots vm0 X eT hZ hown B => ⟨T, X, eT, X.ldcInt B.2.1 hown (mvT hZ w) (g := mkF x.m pc Ls st) rfl (hb B.2.2.1 hd)⟩
theorem Hr.ldcL {index : Nat} {v : Int64} (H : Hr x b Z EL K S h sf pc Ls st) (w : (Jvm.Cond.constantLong b.y.cls index v).before a0 Z = true) (hd : decode b.bytes pc = .ok (.ldc2_w index, 3)) (hpc : pc + 3 = pc' := by rfl) : Hr x b Z EL K S h sf pc' Ls (.long v :: st) := by
  subst hpc
  exact H.same fun T locs cells slots vm0 X eT hZ hown B => ⟨T, X, eT, X.ldc2Long B.2.1 hown (mvT hZ w) (g := mkF x.m pc Ls st) rfl (hb B.2.2.1 hd)⟩
theorem Hr.getF {index : Nat} {O n d : String} {a : Addr} {v : Value} (H : Hr x b Z EL K S h sf pc Ls (.ref a :: st)) (w : (Jvm.Cond.fieldLink b.y.cls index O n d).before a0 Z = true) (F : Fld Z h a O n d v) (hd : decode b.bytes pc = .ok (.getfield index, 3)) (hpc : pc + 3 = pc' := by rfl) : Hr x b Z EL K S h sf pc' Ls (v :: st) := by
  subst hpc
  exact H.same fun T locs cells slots vm0 X eT hZ hown B => Jvm.RoadKit.getF X B.2.1 hZ hown (host := "") (Or.inl w) Via.refl eT F (g := mkF x.m pc Ls (.ref a :: st)) rfl rfl (hb B.2.2.1 hd)
theorem Hr.getFvia {index : Nat} {R0 O n d : String} {a : Addr} {v : Value} (H : Hr x b Z EL K S h sf pc Ls (.ref a :: st)) (w : (Jvm.Cond.fieldLink b.y.cls index R0 n d).before a0 Z = true) (via : Via Z R0 O n d) (F : Fld Z h a O n d v) (hd : decode b.bytes pc = .ok (.getfield index, 3)) (hpc : pc + 3 = pc' := by rfl) : Hr x b Z EL K S h sf pc' Ls (v :: st) := by
  subst hpc
  exact H.same fun T locs cells slots vm0 X eT hZ hown B => Jvm.RoadKit.getF X B.2.1 hZ hown (host := "") (Or.inl w) via eT F (g := mkF x.m pc Ls (.ref a :: st)) rfl rfl (hb B.2.2.1 hd)
theorem Hr.getS {index : Nat} {O n d : String} {v : Value} (H : Hr x b Z EL K S h sf pc Ls st) (w : (Jvm.Cond.fieldLink b.y.cls index O n d).before a0 Z = true) (F : Sta Z h O n d v) (hd : decode b.bytes pc = .ok (.getstatic index, 3)) (hpc : pc + 3 = pc' := by rfl) : Hr x b Z EL K S h sf pc' Ls (v :: st) := by
  subst hpc
  exact H.same fun T locs cells slots vm0 X eT hZ hown B => Jvm.RoadKit.getS (host := "") X B.2.1 hZ hown w Via.refl eT F (g := mkF x.m pc Ls st) rfl (hb B.2.2.1 hd)
theorem Hr.cast {index : Nat} {C : String} {a : Addr} (H : Hr x b Z EL K S h sf pc Ls (.ref a :: st)) (w : (Jvm.Cond.classLink b.y.cls index C).before a0 Z = true) (F : Ins Z h a C true) (hd : decode b.bytes pc = .ok (.checkcast index, 3)) (hpc : pc + 3 = pc' := by rfl) : Hr x b Z EL K S h sf pc' Ls (.ref a :: st) := by
  subst hpc
  exact H.same fun T locs cells slots vm0 X eT hZ hown B => castY X B.2.1 hZ hown w eT F (g := mkF x.m pc Ls (.ref a :: st)) rfl rfl (hb B.2.2.1 hd)
theorem Hr.inst {index : Nat} {C : String} {a : Addr} (H : Hr x b Z EL K S h sf pc Ls (.ref a :: st)) (w : (Jvm.Cond.classLink b.y.cls index C).before a0 Z = true) (F : Ins Z h a C true) (hd : decode b.bytes pc = .ok (.instanceof index, 3)) (hpc : pc + 3 = pc' := by rfl) : Hr x b Z EL K S h sf pc' Ls (.int 1 :: st) := by
  subst hpc
  exact H.same fun T locs cells slots vm0 X eT hZ hown B => instY X B.2.1 hZ hown w eT F (g := mkF x.m pc Ls (.ref a :: st)) rfl rfl (hb B.2.2.1 hd)
theorem Hr.initO {index : Nat} {a : Addr} (H : Hr x b Z EL K S h sf pc Ls (.ref a :: st)) (w1 : (Jvm.Cond.methodLink b.y.cls index Lib.objectInit).before a0 Z = true) (w2 : (Jvm.Cond.instanceMethod Lib.objectInit).before a0 Z = true) (w3 : (Jvm.Cond.code Lib.objectInit ⟨#[0xb1]⟩ 1 none).before a0 Z = true)
    (hd : decode b.bytes pc = .ok (.invokespecial index, 3)) (hLs : Ls.size = b.maxL := by rfl) (hf : 1 ≤ b.R.frames := by decide) {Wr : Nat} (hW : (st.map fun v => v.category).sum = Wr := by rfl) (hl : Wr + 12 ≤ b.R.locals := by decide) (hpc : pc + 3 = pc' := by rfl) : Hr x b Z EL K S h sf pc' Ls st := by
  subst hpc hW
  exact H.same fun T locs cells slots vm0 X eT hZ hown B => Jvm.RoadKit.initO X B.2.1 hZ hown w1 w2 w3 eT (g := mkF x.m pc Ls (.ref a :: st)) rfl (hLs.trans B.2.2.2.1.symm) rfl (hb B.2.2.1 hd) hf (W := (st.map fun v => v.category).sum) (by show 2 * 0 + _ ≤ _; omega) hl
theorem Hr.putF {index kk : Nat} {O n d C : String} {ty : FieldType} {a : Addr} {v old : Value} (H : Hr x b Z EL K S h sf pc Ls (v :: .ref a :: st)) (ha : a ∈ sf) (w : (Jvm.Cond.fieldLink b.y.cls index O n d).before a0 Z = true) (F : Fld Z h a O n d old) (E : Exa Z h a C)
    (L : (Jvm.Cond.lays C O n d).before a0 Z = true ∨ ((Jvm.Cond.laysFinal C O n d).before a0 Z = true ∧ b.y.cls = O ∧ b.y.name = "<init>")) (wi : (Jvm.Cond.instantiable C kk).before a0 Z = true) (hd : decode b.bytes pc = .ok (.putfield index, 3))
    (hty : parseFieldDescriptor d = some ty := by decide +kernel) (hn : narrow ty v = v := by rfl) (hf : fits ty v = true := by rfl) (hpc : pc + 3 = pc' := by rfl) :
    ∃ h', Wr h h' a (Jvm.RoadKit.slotOf Z O n d) v ∧ Hr x b Z EL K S h' sf pc' Ls st := by
  subst hpc
  exact H.write ha fun T locs cells slots vm0 X eT hZ hown B => Jvm.RoadKit.putF X B.2.1 hZ hown (host := "") (Or.inl w) Via.refl eT F E (L.imp id fun q => ⟨q.1, q.2.1, B.2.2.2.2.2.2.trans q.2.2⟩) wi hty hn hf (g := mkF x.m pc Ls (v :: .ref a :: st)) rfl rfl (hb B.2.2.1 hd)
theorem Hr.new {index n : Nat} {C : String} (H : Hr x b Z EL K S h sf pc Ls st) (w : (Jvm.Cond.classLink b.y.cls index C).before a0 Z = true) (wi : (Jvm.Cond.instantiable C n).before a0 Z = true) (wz : (Jvm.Cond.initialized C).before a0 Z = true) (hd : decode b.bytes pc = .ok (.new index, 3))
    (hc : K + 1 ≤ b.R.cells := by decide) (hl : S + n ≤ b.R.slots := by decide) (hpc : pc + 3 = pc' := by rfl) :
    ∃ h', Ext h h' ∧ (Exa Z h' h.size C ∧ (∀ {O nm d : String} {ty : FieldType}, Laid Z a0 C O nm d → parseFieldDescriptor d = some ty → Fld Z h' h.size O nm d (defaultValue ty)) ∧ Unt h' h.size) ∧ Hr x b Z EL (K + 1) (S + n) h' (h.size :: sf) pc' Ls (.ref h.size :: st) := by
  subst hpc
  refine H.alloc hc hl (P := fun h' => Exa Z h' h.size C ∧ (∀ {O nm d : String} {ty : FieldType}, Laid Z a0 C O nm d → parseFieldDescriptor d = some ty → Fld Z h' h.size O nm d (defaultValue ty)) ∧ Unt h' h.size) (fun h' q => q.1.lt) fun T locs cells slots vm0 X eT hZ hown B hc' hl' => ?_
  obtain ⟨T', h', X', e', E, A, D, U, st1⟩ := newO X B.2.1 hZ hown w wi wz eT (g := mkF x.m pc Ls st) rfl (hb B.2.2.1 hd) hc' hl'
  exact ⟨T', h', X', e', E, ⟨A, D, U⟩, st1⟩
/-! ### ends -/
theorem Hr.fin {Q : Option Value → Heap → List Addr → Prop} {v : Value} {t : FieldType} {i : Instr} {sn : List Addr} (H : Hr x b Z EL K S h sf pc Ls (v :: st)) (hd : decode b.bytes pc = .ok (i, 1)) (hret : b.ret = some t) (hn : narrow t v = v)
    (hi : (i = .ireturn ∧ (t = .int ∨ t = .boolean ∨ t = .byte ∨ t = .char ∨ t = .short) ∧ ∃ z, v = .int z) ∨ (i = .lreturn ∧ t = .long ∧ ∃ z, v = .long z) ∨ (i = .dreturn ∧ t = .double ∧ ∃ z, v = .double z) ∨ (i = .freturn ∧ t = .float ∧ ∃ z, v = .float z) ∨ (i = .areturn ∧ t.isReference = true ∧ v.isRef = true))
    (hK : K ≤ b.R.cells) (hS : S ≤ b.R.slots) (hsn : ∀ a ∈ sn, a ∈ sf) (q : Q (some v) h sn) : Ends x b Z EL Q := by
  obtain ⟨B, T, locs, cells, slots, vm0, k0, ⟨X, h1, h2, h3, h4, h5, h6, h7, h8, h9, h10, h11, h12, h13, h14⟩, k⟩ := H
  have A := CHv.at X h7 B.1.choose_spec h9.1
  obtain ⟨fs, hr, hrun, hended, hW⟩ := (X.mono (Nat.le_trans h1 hK) (Nat.le_trans h2 hS)).leaveW h5 (by rw [h3]; exact h6) (v := some v) (fun z => by rw [B.2.2.2.2.1, hret] at z; cases z) B.2.2.2.2.2.1
  refine ⟨_, _, k _ (retOut X B.2.1 (t := t) (by rw [B.2.2.2.2.1]; exact hret) hn hi (hb B.2.2.1 hd) hr), hrun, hended, some v, locs, sn, rfl, ?_, ?_, fun z hz => ?_, h4, ?_, fun hn => State.WarmedH.trans (t := x.s.setVm vm0) (h13 hn) X.warmed, hW⟩
  · show Q (some v) T.heap sn; rw [h3]; exact q
  · show Keep x.s.heap T.heap x.sf0; rw [h3]; exact h10
  · obtain ⟨z1, z2, z3, z4⟩ := h12 z (hsn z hz)
    refine ⟨z1, z2, ?_, ?_⟩
    · show z < T.heap.size; rw [h3]; exact z3
    · show Safe Z EL T.vm T.heap z; rw [h3]; exact A.safe z3 z4
  · show CHr Z EL x.s.vm x.s.heap T.vm T.heap; rw [h3]; exact h9.trans A
theorem Hr.finN {Q : Option Value → Heap → List Addr → Prop} {sn : List Addr} (H : Hr x b Z EL K S h sf pc Ls []) (hd : decode b.bytes pc = .ok (.return_, 1)) (hret : b.ret = none)
    (hK : K ≤ b.R.cells) (hS : S ≤ b.R.slots) (hsn : ∀ a ∈ sn, a ∈ sf) (q : Q none h sn) : Ends x b Z EL Q := by
  obtain ⟨B, T, locs, cells, slots, vm0, k0, ⟨X, h1, h2, h3, h4, h5, h6, h7, h8, h9, h10, h11, h12, h13, h14⟩, k⟩ := H
  have A := CHv.at X h7 B.1.choose_spec h9.1
  obtain ⟨fs, hr, hrun, hended, hW⟩ := (X.mono (Nat.le_trans h1 hK) (Nat.le_trans h2 hS)).leaveW h5 (by rw [h3]; exact h6) (v := none) (fun _ => rfl) B.2.2.2.2.2.1
  refine ⟨_, _, k _ (X.returnOut B.2.1 (by rw [B.2.2.2.2.1]; exact hret) (hb B.2.2.1 hd) hr), hrun, hended, none, locs, sn, rfl, ?_, ?_, fun z hz => ?_, h4, ?_, fun hn => State.WarmedH.trans (t := x.s.setVm vm0) (h13 hn) X.warmed, hW⟩
  · show Q none T.heap sn; rw [h3]; exact q
  · show Keep x.s.heap T.heap x.sf0; rw [h3]; exact h10
  · obtain ⟨z1, z2, z3, z4⟩ := h12 z (hsn z hz)
    refine ⟨z1, z2, ?_, ?_⟩
    · show z < T.heap.size; rw [h3]; exact z3
    · show Safe Z EL T.vm T.heap z; rw [h3]; exact A.safe z3 z4
  · show CHr Z EL x.s.vm x.s.heap T.vm T.heap; rw [h3]; exact h9.trans A
theorem Hr.finI {Q : Option Value → Heap → List Addr → Prop} {v : Int32} {sn : List Addr} (H : Hr x b Z EL K S h sf pc Ls (.int v :: st)) (hd : decode b.bytes pc = .ok (.ireturn, 1)) (q : Q (some (.int v)) h sn) (hsn : ∀ a ∈ sn, a ∈ sf) (hret : b.ret = some .int := by rfl) (hK : K ≤ b.R.cells := by decide) (hS : S ≤ b.R.slots := by decide) : Ends x b Z EL Q :=
  H.fin hd hret rfl (Or.inl ⟨rfl, Or.inl rfl, _, rfl⟩) hK hS hsn q
theorem Hr.finZ {Q : Option Value → Heap → List Addr → Prop} {v : Int32} {t : FieldType} {sn : List Addr} (H : Hr x b Z EL K S h sf pc Ls (.int v :: st)) (hd : decode b.bytes pc = .ok (.ireturn, 1)) (hn : narrow t (.int v) = .int v) (q : Q (some (.int v)) h sn) (hsn : ∀ a ∈ sn, a ∈ sf) (hret : b.ret = some t := by rfl) (ht : t = .int ∨ t = .boolean ∨ t = .byte ∨ t = .char ∨ t = .short := by simp) (hK : K ≤ b.R.cells := by decide) (hS : S ≤ b.R.slots := by decide) : Ends x b Z EL Q :=
  H.fin hd hret hn (Or.inl ⟨rfl, ht, _, rfl⟩) hK hS hsn q
theorem Hr.finA {Q : Option Value → Heap → List Addr → Prop} {v : Value} {t : FieldType} {sn : List Addr} (H : Hr x b Z EL K S h sf pc Ls (v :: st)) (hd : decode b.bytes pc = .ok (.areturn, 1)) (q : Q (some v) h sn) (hsn : ∀ a ∈ sn, a ∈ sf) (hv : v.isRef = true := by rfl) (hret : b.ret = some t := by rfl) (ht : t.isReference = true := by rfl) (hK : K ≤ b.R.cells := by decide) (hS : S ≤ b.R.slots := by decide) : Ends x b Z EL Q :=
  H.fin hd hret (by rcases ref_cases hv with rfl | ⟨a, rfl⟩ <;> cases t <;> first | rfl | cases ht) (Or.inr (Or.inr (Or.inr (Or.inr ⟨rfl, ht, hv⟩)))) hK hS hsn q
/-! ### calls -/
theorem Hr.callS {y : MethodName} {bytes : ByteArray} {maxL : Nat} {ret : Option FieldType} {rm : Room} {as' : Array Value} {sf' : List Addr} {Q : Option Value → Heap → List Addr → Prop} {index : Nat} {argsL rest : List Value} {ps : List FieldType} {rt : Option FieldType}
    (H : Hr x b Z EL K S h sf pc Ls st) (C : Ct x.l Z EL y bytes maxL ret rm as' h sf' x.nar x.kn Q) (sub : ∀ a ∈ sf', a ∈ sf)
    (w1 : (Jvm.Cond.methodLink b.y.cls index y).before a0 Z = true) (w2 : (Jvm.Cond.static y).before a0 Z = true) (w3 : (Jvm.Cond.initialized y.cls).before a0 Z = true) (w4 : (Jvm.Cond.code y bytes maxL ret).before a0 Z = true)
    (hd : decode b.bytes pc = .ok (.invokestatic index, 3)) (hp : parseMethodDescriptor y.desc = some ⟨ps, rt⟩) (hst : st = argsL.reverse ++ rest) (has : argsL.toArray = as' := by rfl) (hl2 : argsL.length = ps.length := by rfl) (hy : y.cls ≠ "java/lang/invoke/MethodHandle" ∧ y.cls ≠ "java/lang/invoke/VarHandle" := by decide)
    (hf : rm.frames + 1 ≤ b.R.frames := by decide) {Wr : Nat} (hW : (rest.map fun v => v.category).sum = Wr := by rfl) (hl : Wr + (maxL + 11) + rm.locals ≤ b.R.locals := by decide) (hc : K + rm.cells ≤ b.R.cells := by decide) (hs : S + rm.slots ≤ b.R.slots := by decide) (hLs : Ls.size = b.maxL := by rfl) (hpc : pc + 3 = pc' := by rfl) :
    ∃ (v : Option Value) (h' : Heap) (sn : List Addr), Q v h' sn ∧ Keep h h' sf' ∧ Hr x b Z EL (K + rm.cells) (S + rm.slots) h' (sn ++ sf) pc' Ls (v.toList ++ rest) := by
  subst has hpc hW
  obtain ⟨B, T, locs, cells, slots, vm0, k0, X, k⟩ := H
  have X2 := X
  obtain ⟨X1, h1, h2, h3, h4, h5, h6, h7, h8, h9, h10, h11, h12, h13, h14⟩ := X2
  obtain ⟨v, vm₁, P, -, X', hS, hgr, hp', hsteps⟩ := callSS X1 B.2.1 (own := b.y.cls) h8 (mvT h7 w1) (mvT h7 w2) (mvT h7 w3) (mvT h7 w4) hy
    (C.backS (W := (rest.map fun v => v.category).sum) h7 w4 w3 hf hl B.1.choose_spec h9.1 h11 (fun z hz => (h12 z (sub z hz)).2) h14)
    (g := mkF x.m pc Ls st) rfl (hLs.trans B.2.2.2.1.symm) (argsL := argsL) (rest := rest) (lenOf hp hl2) hst (by show 2 * 0 + _ ≤ _; omega) (hb B.2.2.1 hd) (fun vm₁ _ => ⟨rfl, h3, by show cells + _ ≤ _; omega, by show slots + _ ≤ _; omega⟩)
  obtain ⟨h', sn, r1, r2, r3⟩ := Hr.after (rm := rm) (sf' := sf') (Q := Q) B X k sub X' hS hgr hp' hsteps
  exact ⟨v, h', sn, r1, r2, r3⟩
theorem Hr.callI {y : MethodName} {bytes : ByteArray} {maxL : Nat} {rm : Room} {as' : Array Value} {sf' : List Addr} {Q : Option Value → Heap → List Addr → Prop} {index : Nat} {a : Addr} {argsL rest : List Value} {ps : List FieldType} {rt : Option FieldType}
    (H : Hr x b Z EL K S h sf pc Ls st) (C : Ct x.l Z EL y bytes maxL none rm as' h sf' x.nar x.kn Q) (sub : ∀ a ∈ sf', a ∈ sf)
    (w1 : (Jvm.Cond.methodLink b.y.cls index y).before a0 Z = true) (w2 : (Jvm.Cond.instanceMethod y).before a0 Z = true) (w3 : (Jvm.Cond.initialized y.cls).before a0 Z = true) (w4 : (Jvm.Cond.code y bytes maxL none).before a0 Z = true)
    (hd : decode b.bytes pc = .ok (.invokespecial index, 3)) (hp : parseMethodDescriptor y.desc = some ⟨ps, rt⟩) (hst : st = argsL.reverse ++ .ref a :: rest) (has : (Value.ref a :: argsL).toArray = as' := by rfl) (hl2 : argsL.length = ps.length := by rfl) (hy1 : y.name = "<init>" := by rfl) (hy : y.cls ≠ "java/lang/invoke/MethodHandle" ∧ y.cls ≠ "java/lang/invoke/VarHandle" := by decide)
    (hf : rm.frames + 1 ≤ b.R.frames := by decide) {Wr : Nat} (hW : (rest.map fun v => v.category).sum = Wr := by rfl) (hl : Wr + (maxL + 11) + rm.locals ≤ b.R.locals := by decide) (hc : K + rm.cells ≤ b.R.cells := by decide) (hs : S + rm.slots ≤ b.R.slots := by decide) (hLs : Ls.size = b.maxL := by rfl) (hpc : pc + 3 = pc' := by rfl) :
    ∃ (v : Option Value) (h' : Heap) (sn : List Addr), Q v h' sn ∧ Keep h h' sf' ∧ Hr x b Z EL (K + rm.cells) (S + rm.slots) h' (sn ++ sf) pc' Ls (v.toList ++ rest) := by
  subst has hpc hW
  obtain ⟨B, T, locs, cells, slots, vm0, k0, X, k⟩ := H
  have X2 := X
  obtain ⟨X1, h1, h2, h3, h4, h5, h6, h7, h8, h9, h10, h11, h12, h13, h14⟩ := X2
  obtain ⟨v, vm₁, P, -, X', hS, hgr, hp', hsteps⟩ := X1.specialBackS B.2.1 hy1 h8 (mvT h7 w1) (mvT h7 w2) (mvT h7 w4) hy
    (C.backS (W := (rest.map fun v => v.category).sum) h7 w4 w3 hf hl B.1.choose_spec h9.1 h11 (fun z hz => (h12 z (sub z hz)).2) h14)
    (g := mkF x.m pc Ls st) rfl (hLs.trans B.2.2.2.1.symm) (Steps.refl _) (a := a) (argsL := argsL) (rest := rest) (lenOf hp hl2) hst (by show 2 * 0 + _ ≤ _; omega) (hb B.2.2.1 hd) (fun vm₁ _ => ⟨rfl, h3, by show cells + _ ≤ _; omega, by show slots + _ ≤ _; omega⟩)
  obtain ⟨h', sn, r1, r2, r3⟩ := Hr.after (rm := rm) (sf' := sf') (Q := Q) B X k sub X' hS hgr hp' hsteps
  exact ⟨v, h', sn, r1, r2, r3⟩
theorem notFace_by {s : State} {args : Array Value} {C : String} {y y' : MethodName} (ws : (Jvm.Cond.selects C y' y').before args s = true) (hc : y'.cls = y.cls) : NotFace s y := fun r0 h0 => by
  obtain ⟨c2, r2, m2, -, -, q3, -, kP, hkP, hkPi⟩ := Cond.selects_spec ws
  have h1 := findClass_of_methodNamed h0
  have h2 := findClass_of_methodNamed q3
  rw [hc, h1] at h2
  have e : r0.cls = m2.cls := Option.some.inj h2
  rw [← e] at hkP
  exact ⟨kP, hkP, hkPi⟩
theorem Hr.callV {y y' z : MethodName} {bytes : ByteArray} {maxL : Nat} {ret : Option FieldType} {rm : Room} {as' : Array Value} {sf' : List Addr} {Q : Option Value → Heap → List Addr → Prop} {index : Nat} {a : Addr} {cls cls' : String} {argsL rest : List Value} {ps : List FieldType} {rt : Option FieldType}
    (H : Hr x b Z EL K S h sf pc Ls st) (C : Ct x.l Z EL z bytes maxL ret rm as' h sf' x.nar x.kn Q) (sub : ∀ a ∈ sf', a ∈ sf) (E : Exa Z h a cls)
    (w1 : (Jvm.Cond.methodLink b.y.cls index y).before a0 Z = true) (w2 : (Jvm.Cond.declares y).before a0 Z = true) (wn : (Jvm.Cond.selects cls' y' y').before a0 Z = true) (ws : (Jvm.Cond.selects cls y z).before a0 Z = true) (wi : (Jvm.Cond.instanceMethod z).before a0 Z = true) (w3 : (Jvm.Cond.initialized z.cls).before a0 Z = true) (w4 : (Jvm.Cond.code z bytes maxL ret).before a0 Z = true)
    (hd : decode b.bytes pc = .ok (.invokevirtual index, 3)) (hp : parseMethodDescriptor y.desc = some ⟨ps, rt⟩) (hst : st = argsL.reverse ++ .ref a :: rest) (hyc : y'.cls = y.cls := by rfl) (has : (Value.ref a :: argsL).toArray = as' := by rfl) (hl2 : argsL.length = ps.length := by rfl) (hy : y.cls ≠ "java/lang/invoke/MethodHandle" ∧ y.cls ≠ "java/lang/invoke/VarHandle" := by decide)
    (hf : rm.frames + 1 ≤ b.R.frames := by decide) {Wr : Nat} (hW : (rest.map fun v => v.category).sum = Wr := by rfl) (hl : Wr + (maxL + 11) + rm.locals ≤ b.R.locals := by decide) (hc : K + rm.cells ≤ b.R.cells := by decide) (hs : S + rm.slots ≤ b.R.slots := by decide) (hLs : Ls.size = b.maxL := by rfl) (hpc : pc + 3 = pc' := by rfl) :
    ∃ (v : Option Value) (h' : Heap) (sn : List Addr), Q v h' sn ∧ Keep h h' sf' ∧ Hr x b Z EL (K + rm.cells) (S + rm.slots) h' (sn ++ sf) pc' Ls (v.toList ++ rest) := by
  subst has hpc hW
  obtain ⟨B, T, locs, cells, slots, vm0, k0, X, k⟩ := H
  have X2 := X
  obtain ⟨X1, h1, h2, h3, h4, h5, h6, h7, h8, h9, h10, h11, h12, h13, h14⟩ := X2
  obtain ⟨cB, kB, i1, i2, i3⟩ := isOf (s := x.s.setVm vm0) (T := T) h7 h3 E
  obtain ⟨v, vm₁, P, -, X', hS, hgr, hp', hsteps⟩ := X1.virtualBackS B.2.1 (y := y) (z := z) h8 (mvT h7 w1) (mvT h7 w2) (notFace_by (args := #[]) (mvT h7 wn) hyc) (mvT h7 ws) (mvT h7 wi) hy
    (C.backS (W := (rest.map fun v => v.category).sum) h7 w4 w3 hf hl B.1.choose_spec h9.1 h11 (fun z hz => (h12 z (sub z hz)).2) h14) i1 i3
    (g := mkF x.m pc Ls st) rfl (hLs.trans B.2.2.2.1.symm) (Steps.refl _) (argsL := argsL) (rest := rest) (lenOf hp hl2) hst (by show 2 * 0 + _ ≤ _; omega) (hb B.2.2.1 hd) (fun vm₁ _ => ⟨rfl, h3, by show cells + _ ≤ _; omega, by show slots + _ ≤ _; omega⟩)
  obtain ⟨h', sn, r1, r2, r3⟩ := Hr.after (rm := rm) (sf' := sf') (Q := Q) B X k sub X' hS hgr hp' hsteps
  exact ⟨v, h', sn, r1, r2, r3⟩
end Layer2
end Jvm.Pilot.@@N@@
namespace Jvm.Pilot.@@N@@
open Jvm Jvm.ClassFile Sem Op Lib Bundle Jvm.Free Jvm.Stand Jvm.LawKit Jvm.RoadKit
section Layer3
variable {x : Cx} {b : Bx} {Z : State} {EL : List (String × Nat)} {K S : Nat} {h h' : Heap} {sf : List Addr} {pc pc' : Nat} {Ls Ls' : Array Slot} {st st' : List Value} {a0 : Array Value}
/-- an array and all that it holds -/
def Ar (Z : State) (h : Heap) (a : Addr) (ty : FieldType) (vs : List Value) : Prop := ∃ c : Cell, Arr Z h a c ty ∧ c.slots.toList = vs ∧ vs.length < 2147483648
variable {a d : Addr} {ty : FieldType} {vs : List Value} {ws : List Addr} {sl : Nat} {v : Value}
theorem neN {p q : Addr} (h : @Ne Nat p q) : p ≠ q := h
theorem exa_lt {C : String} (F : Exa Z h a C) : h.size > a := F.lt
theorem fld_lt {C n d : String} (F : Fld Z h a C n d v) : h.size > a := F.lt
theorem Ar.lt (F : Ar Z h a ty vs) : h.size > a := by obtain ⟨c, A, -⟩ := F; exact A.lt
theorem Ar.len (F : Ar Z h a ty vs) : vs.length < 2147483648 := by obtain ⟨c, A, -, q⟩ := F; exact q
theorem Ar.ext (F : Ar Z h a ty vs) (E : Ext h h') : Ar Z h' a ty vs := by obtain ⟨c, A, r⟩ := F; exact ⟨c, A.ext E, r⟩
theorem Ar.keep (F : Ar Z h a ty vs) (K : Keep h h' ws) (q : a ∉ ws) : Ar Z h' a ty vs := by obtain ⟨c, A, r⟩ := F; exact ⟨c, ⟨K.2.1 a c A.1 q, A.2⟩, r⟩
theorem Ar.other (F : Ar Z h a ty vs) (W : Wr h h' d sl v) (q : a ≠ d) : Ar Z h' a ty vs := by obtain ⟨c, A, r⟩ := F; exact ⟨c, A.other W q, r⟩
theorem Ar.set (F : Ar Z h a ty vs) (W : Wr h h' a sl v) : Ar Z h' a ty (vs.set sl v) := by
  obtain ⟨c, A, r1, r2⟩ := F
  exact ⟨_, A.same W, by subst r1; simp [Cell.setSlot], by simpa using r2⟩
theorem Ar.of_new {k : ClassId} {n : Int32} (A : Arr Z h a (newA k ty n) ty) (hn : ¬ n < 0) : Ar Z h a ty (List.replicate n.toNatClampNeg (defaultValue ty)) :=
  ⟨_, A, by simp [newA], by have := (back32 hn).2; simpa using this⟩
theorem Ar.of_arv {k : ClassId} {z : Int32} {dv : Value} (F : Arv Z h a k ty z vs dv) (hz : z.toNatClampNeg = vs.length) : Ar Z h a ty vs := by
  obtain ⟨c, A, -, r2, r3, r4, -⟩ := F
  refine ⟨c, A, ?_, by have := (back32 r3).2; omega⟩
  apply List.ext_getElem?
  intro i
  by_cases hi : i < vs.length
  · have := r4 i (by omega)
    rw [Array.getElem?_toList, this]
    simp [List.getD, hi]
  · rw [List.getElem?_eq_none (by rw [Array.length_toList]; omega), List.getElem?_eq_none (by omega)]
theorem Ar.at {c : Cell} {i : Nat} {j : Int32} (hc : c.slots.toList = vs) (hl : vs.length < 2147483648) (hj : j = Int32.ofNat i) (hv : vs[i]? = some v) : ¬ (j < 0 ∨ c.slots.size ≤ j.toNatClampNeg) ∧ j.toNatClampNeg = i ∧ c.slots[j.toNatClampNeg]? = some v := by
  obtain ⟨hi, -⟩ := List.getElem?_eq_some_iff.mp hv
  have hs : c.slots.size = vs.length := by rw [← hc, Array.length_toList]
  have h2 : j.toNatClampNeg = i := clamp_of hj (by omega)
  exact ⟨by rw [hs]; exact within hj hi (by omega), h2, by rw [h2, ← Array.getElem?_toList, hc]; exact hv⟩
theorem Hr.arraylength {n : Int32} (H : Hr x b Z EL K S h sf pc Ls (.ref a :: st)) (A : Ar Z h a ty vs) (hd : decode b.bytes pc = .ok (.arraylength, 1)) (hn : Int32.ofNat vs.length = n := by rfl) (hpc : pc + 1 = pc' := by rfl) : Hr x b Z EL K S h sf pc' Ls (.int n :: st) := by
  subst hpc hn
  obtain ⟨c, A1, r1, r2⟩ := A
  refine H.same fun T locs cells slots vm0 X eT hZ hown B => ⟨T, X, eT, fun t q => X.arraylength B.2.1 (cell := c) (ty := ty) (by rw [eT]; exact A1.1) (State.isArrayOf_alike hZ.alike A1.2.1) (g := mkF x.m pc Ls (.ref a :: st)) rfl rfl (hb B.2.2.1 hd) t ?_⟩
  have e : c.slots.size.toInt32 = Int32.ofNat vs.length := by rw [← r1, Array.length_toList]
  rw [e]; exact q
theorem Hr.caload {i : Nat} {j : Int32} (H : Hr x b Z EL K S h sf pc Ls (.int j :: .ref a :: st)) (A : Ar Z h a .char vs) (hd : decode b.bytes pc = .ok (.caload, 1)) (hj : j = Int32.ofNat i) (hv : vs[i]? = some v) (hpc : pc + 1 = pc' := by rfl) : Hr x b Z EL K S h sf pc' Ls (v :: st) := by
  subst hpc
  obtain ⟨c, A1, r1, r2⟩ := A
  obtain ⟨q1, q2, q3⟩ := Ar.at r1 r2 hj hv
  exact H.same fun T locs cells slots vm0 X eT hZ hown B => ⟨T, X, eT, fun t q => X.caload B.2.1 (cell := c) (by rw [eT]; exact A1.1) (State.isArrayOf_alike hZ.alike A1.2.1) A1.2.2 q1 q3 (g := mkF x.m pc Ls (.int j :: .ref a :: st)) rfl rfl (hb B.2.2.1 hd) t q⟩
theorem Hr.baload {i : Nat} {j : Int32} (H : Hr x b Z EL K S h sf pc Ls (.int j :: .ref a :: st)) (A : Ar Z h a .byte vs) (hd : decode b.bytes pc = .ok (.baload, 1)) (hj : j = Int32.ofNat i) (hv : vs[i]? = some v) (hpc : pc + 1 = pc' := by rfl) : Hr x b Z EL K S h sf pc' Ls (v :: st) := by
  subst hpc
  obtain ⟨c, A1, r1, r2⟩ := A
  obtain ⟨q1, q2, q3⟩ := Ar.at r1 r2 hj hv
  exact H.same fun T locs cells slots vm0 X eT hZ hown B => ⟨T, X, eT, fun t q => X.baloadBytes B.2.1 (cell := c) (by rw [eT]; exact A1.1) (State.isArrayOf_alike hZ.alike A1.2.1) A1.2.2 q1 q3 (g := mkF x.m pc Ls (.int j :: .ref a :: st)) rfl rfl (hb B.2.2.1 hd) t q⟩
theorem Hr.iaload {i : Nat} {j : Int32} (H : Hr x b Z EL K S h sf pc Ls (.int j :: .ref a :: st)) (A : Ar Z h a .int vs) (hd : decode b.bytes pc = .ok (.iaload, 1)) (hj : j = Int32.ofNat i) (hv : vs[i]? = some v) (hpc : pc + 1 = pc' := by rfl) : Hr x b Z EL K S h sf pc' Ls (v :: st) := by
  subst hpc
  obtain ⟨c, A1, r1, r2⟩ := A
  obtain ⟨q1, q2, q3⟩ := Ar.at r1 r2 hj hv
  exact H.same fun T locs cells slots vm0 X eT hZ hown B => ⟨T, X, eT, fun t q => X.iaload B.2.1 (cell := c) (by rw [eT]; exact A1.1) (State.isArrayOf_alike hZ.alike A1.2.1) A1.2.2 q1 q3 (g := mkF x.m pc Ls (.int j :: .ref a :: st)) rfl rfl (hb B.2.2.1 hd) t q⟩
theorem Hr.aaload {i : Nat} {j : Int32} (H : Hr x b Z EL K S h sf pc Ls (.int j :: .ref a :: st)) (A : Ar Z h a ty vs) (hd : decode b.bytes pc = .ok (.aaload, 1)) (hj : j = Int32.ofNat i) (hv : vs[i]? = some v) (hty : ty.isReference = true := by rfl) (hpc : pc + 1 = pc' := by rfl) : Hr x b Z EL K S h sf pc' Ls (v :: st) := by
  subst hpc
  obtain ⟨c, A1, r1, r2⟩ := A
  obtain ⟨q1, q2, q3⟩ := Ar.at r1 r2 hj hv
  exact H.same fun T locs cells slots vm0 X eT hZ hown B => ⟨T, X, eT, fun t q => X.aaload B.2.1 (cell := c) (by rw [eT]; exact A1.1) (State.isArrayOf_alike hZ.alike A1.2.1) hty A1.2.2 q1 q3 (g := mkF x.m pc Ls (.int j :: .ref a :: st)) rfl rfl (hb B.2.2.1 hd) t q⟩
theorem Hr.castore {i : Nat} {j u w : Int32} (H : Hr x b Z EL K S h sf pc Ls (.int u :: .int j :: .ref a :: st)) (ha : a ∈ sf) (A : Ar Z h a .char vs) (hd : decode b.bytes pc = .ok (.castore, 1)) (hj : j = Int32.ofNat i) (hi : i < vs.length) (hw : nar .char u = w := by rfl) (hpc : pc + 1 = pc' := by rfl) :
    ∃ h', Wr h h' a i (.int w) ∧ Hr x b Z EL K S h' sf pc' Ls st := by
  subst hpc hw
  obtain ⟨c, A1, r1, r2⟩ := A
  obtain ⟨q1, q2, q3⟩ := Ar.at r1 r2 hj (List.getElem?_eq_getElem hi)
  rw [← q2]
  exact H.write ha fun T locs cells slots vm0 X eT hZ hown B => stC X B.2.1 hZ eT A1 q1 (g := mkF x.m pc Ls (.int u :: .int j :: .ref a :: st)) rfl rfl (hb B.2.2.1 hd)
theorem Hr.bastore {i : Nat} {j u w : Int32} (H : Hr x b Z EL K S h sf pc Ls (.int u :: .int j :: .ref a :: st)) (ha : a ∈ sf) (A : Ar Z h a .byte vs) (hd : decode b.bytes pc = .ok (.bastore, 1)) (hj : j = Int32.ofNat i) (hi : i < vs.length) (hw : nar .byte u = w := by rfl) (hpc : pc + 1 = pc' := by rfl) :
    ∃ h', Wr h h' a i (.int w) ∧ Hr x b Z EL K S h' sf pc' Ls st := by
  subst hpc hw
  obtain ⟨c, A1, r1, r2⟩ := A
  obtain ⟨q1, q2, q3⟩ := Ar.at r1 r2 hj (List.getElem?_eq_getElem hi)
  rw [← q2]
  exact H.write ha fun T locs cells slots vm0 X eT hZ hown B => stB X B.2.1 hZ eT A1 q1 (g := mkF x.m pc Ls (.int u :: .int j :: .ref a :: st)) rfl rfl (hb B.2.2.1 hd)
theorem Hr.iastore {i : Nat} {j u : Int32} (H : Hr x b Z EL K S h sf pc Ls (.int u :: .int j :: .ref a :: st)) (ha : a ∈ sf) (A : Ar Z h a .int vs) (hd : decode b.bytes pc = .ok (.iastore, 1)) (hj : j = Int32.ofNat i) (hi : i < vs.length) (hpc : pc + 1 = pc' := by rfl) :
    ∃ h', Wr h h' a i (.int u) ∧ Hr x b Z EL K S h' sf pc' Ls st := by
  subst hpc
  obtain ⟨c, A1, r1, r2⟩ := A
  obtain ⟨q1, q2, q3⟩ := Ar.at r1 r2 hj (List.getElem?_eq_getElem hi)
  rw [← q2]
  exact H.write ha fun T locs cells slots vm0 X eT hZ hown B => stI X B.2.1 hZ eT A1 q1 (g := mkF x.m pc Ls (.int u :: .int j :: .ref a :: st)) rfl rfl (hb B.2.2.1 hd)
theorem Hr.newarray {aty : ArrayType} {n : Int32} {cap : Nat} (H : Hr x b Z EL K S h sf pc Ls (.int n :: st)) (w : (Jvm.Cond.arrayClass (newarray.typeOf aty)).before a0 Z = true) (hd : decode b.bytes pc = .ok (.newarray aty, 2)) (hn : ¬ n < 0) (hcap : n.toNatClampNeg ≤ cap) (hb8 : cap * 8 ≤ 536870912)
    (hc : K + 1 ≤ b.R.cells := by decide) (hl : S + cap ≤ b.R.slots := by decide) (hpc : pc + 2 = pc' := by rfl) :
    ∃ h', Ext h h' ∧ Ar Z h' h.size (newarray.typeOf aty) (List.replicate n.toNatClampNeg (defaultValue (newarray.typeOf aty))) ∧ Hr x b Z EL (K + 1) (S + cap) h' (h.size :: sf) pc' Ls (.ref h.size :: st) := by
  subst hpc
  refine H.alloc hc hl (P := fun h' => Ar Z h' h.size (newarray.typeOf aty) (List.replicate n.toNatClampNeg (defaultValue (newarray.typeOf aty)))) (fun h' q => q.lt) fun T locs cells slots vm0 X eT hZ hown B hc' hl' => ?_
  obtain ⟨T', h', cA, X', e', E, A, st1⟩ := newP X B.2.1 hZ w eT (g := mkF x.m pc Ls (.int n :: st)) rfl (hb B.2.2.1 hd) rfl hn hcap hb8 hc' hl'
  exact ⟨T', h', X', e', E, Ar.of_new A hn, st1⟩
/-! ### Strings -/
abbrev ST : String := "java/lang/String"
/-- a Latin-1 String: its value array lies at t and holds the bytes bs -/
def Str (Z : State) (h : Heap) (a t : Addr) (bs : List Int32) : Prop := Exa Z h a ST ∧ Fld Z h a ST "coder" "B" (.int 0) ∧ Fld Z h a ST "value" "[B" (.ref t) ∧ Ar Z h t .byte (bs.map Value.int)
variable {t : Addr} {bs : List Int32}
theorem Str.ext (F : Str Z h a t bs) (E : Ext h h') : Str Z h' a t bs := ⟨F.1.ext E, F.2.1.ext E, F.2.2.1.ext E, F.2.2.2.ext E⟩
theorem Str.keep (F : Str Z h a t bs) (K : Keep h h' ws) (q : a ∉ ws) (q' : t ∉ ws) : Str Z h' a t bs := ⟨F.1.keep K, F.2.1.keep K q, F.2.2.1.keep K q, F.2.2.2.keep K q'⟩
theorem Str.other (F : Str Z h a t bs) (W : Wr h h' d sl v) (q : a ≠ d) (q' : t ≠ d) : Str Z h' a t bs := ⟨F.1.wr W, F.2.1.other W (Or.inl q), F.2.2.1.other W (Or.inl q), F.2.2.2.other W q'⟩
theorem Str.lt (F : Str Z h a t bs) : h.size > a := F.1.lt
theorem Str.lt' (F : Str Z h a t bs) : h.size > t := F.2.2.2.lt
theorem Str.len (F : Str Z h a t bs) : bs.length < 2147483648 := by have := F.2.2.2.len; simpa using this
/-- ldc of a String constant, its text read -/
theorem Hr.ldcS {index n : Nat} {text : String} {z : Int32} (H : Hr x b Z EL K S h sf pc Ls st) (w : (Jvm.Cond.stringLink b.y.cls index text).before a0 Z = true) (wS : ∀ d ∈ Bundle.stringAtoms, d.before a0 Z = true) (hEL : EW Z a0 EL) (hmem : (b.y.cls, index) ∈ EL)
    (ht : (∀ c ∈ text.toList, c.toNat < 256) ∧ text.toList.map (fun c => Jvm.Lit.byteI c.toNat.toUInt16) = bs) (hz : ¬ z < 0) (hl : z.toNatClampNeg = bs.length) (hd : decode b.bytes pc = .ok (.ldc index, 2)) (hn : 4 * text.toList.length ≤ n) (hbig : n ≤ 536870912)
    (hnar : x.nar = false) (hc : K + 2 ≤ b.R.cells := by decide) (hl' : S + (n + 4) ≤ b.R.slots := by decide) (hpc : pc + 2 = pc' := by rfl) :
    ∃ (a t : Addr) (h' : Heap), Ext h h' ∧ Str Z h' a t bs ∧ (∀ y ∈ sf, y ≠ a ∧ y ≠ t) ∧ Hr x b Z EL (K + 2) (S + (n + 4)) h' sf pc' Ls (.ref a :: st) := by
  subst hpc
  obtain ⟨B, T, locs, cells, slots, vm0, k0, ⟨X, h1, h2, h3, h4, h5, h6, h7, h8, h9, h10, h11, h12, h13, h14⟩, k⟩ := H
  obtain ⟨a, T', h', k1, b', kc, X', e', E, hS, hk, hW, hf, g1, g2, g3, g4, g5, g6, hC, -, hsafe, st1⟩ := ldcCH X B.2.1 h7 h8 w wS h3 h5 h6 hEL hmem h9.1 (vs := bs.map Value.int) ⟨ht.1, by rw [← ht.2]; simp⟩ hz (by simpa using hl) (g := mkF x.m pc Ls st) rfl (hb B.2.2.1 hd) hn hbig (by omega) (by omega)
  have hm : ∀ y ∈ sf, Mine x Z EL T'.vm h' y := fun y hy => by
    obtain ⟨y1, y2, y3, y4⟩ := h12 y hy
    exact ⟨y1, y2, Nat.lt_of_lt_of_le y3 E.1, hC.safe y3 y4⟩
  refine ⟨a, b', h', E, ⟨g1, g2, g3, Ar.of_arv g4 (by simpa using hl)⟩, fun y hy => hsafe y (hm y hy).2.2.2, B, T', locs, _, _, T'.vm, k1, ⟨X', by omega, by omega, e', h4, hS, hk, hW, hf, h9.trans hC, h10.ext E, Ext.tr h11 E, hm, fun hn => ?_, fun hk => ?_⟩, fun t q => k t (st1 t q)⟩
  · rw [hnar] at hn; cases hn
  · have hal : vm0.Alike T'.vm := h7.alike.symm.trans hW.alike
    exact ⟨Vm.MethodsKnown.alikeC hal (h14 hk).1, Vm.FramesKnown.alikeC hal (h14 hk).2⟩
end Layer3
end Jvm.Pilot.@@N@@
namespace Jvm.Pilot.@@N@@
open Jvm Jvm.ClassFile Sem Op Lib Bundle Jvm.Free Jvm.Stand Jvm.LawKit Jvm.RoadKit
section Layer4
variable {x : Cx} {b : Bx} {Z : State} {EL : List (String × Nat)} {K S : Nat} {h h' : Heap} {sf : List Addr} {pc pc' : Nat} {Ls Ls' : Array Slot} {st st' : List Value} {a0 : Array Value} {a : Addr}
theorem Hr.instNull {index : Nat} (H : Hr x b Z EL K S h sf pc Ls (.null :: st)) (hd : decode b.bytes pc = .ok (.instanceof index, 3)) (hpc : pc + 3 = pc' := by rfl) : Hr x b Z EL K S h sf pc' Ls (.int 0 :: st) := by
  subst hpc
  exact H.same fun T locs cells slots vm0 X eT hZ hown B => ⟨T, X, eT, X.instanceofNull B.2.1 (g := mkF x.m pc Ls (.null :: st)) rfl rfl (hb B.2.2.1 hd)⟩
/-- clone() of an array that stood at the law's start -/
theorem Hr.clone {index cap : Nat} {ad : String} {cl : Cell} {ty : FieldType} (H : Hr x b Z EL K S h sf pc Ls (.ref a :: st))
    (w1 : (Jvm.Cond.methodLink b.y.cls index ⟨ad, "clone", "()Ljava/lang/Object;"⟩).before a0 Z = true) (w2 : (Jvm.Cond.sameMethod ad "java/lang/Object" "clone" "()Ljava/lang/Object;").before a0 Z = true) (w3 : (Jvm.Cond.native ⟨"java/lang/Object", "clone", "()Ljava/lang/Object;"⟩).before a0 Z = true)
    (w4 : (Jvm.Cond.instanceMethod ⟨"java/lang/Object", "clone", "()Ljava/lang/Object;"⟩).before a0 Z = true) (w5 : (Jvm.Cond.selects ad ⟨ad, "clone", "()Ljava/lang/Object;"⟩ ⟨"java/lang/Object", "clone", "()Ljava/lang/Object;"⟩).before a0 Z = true) (w6 : (Jvm.Cond.castable ad "java/lang/Cloneable").before a0 Z = true)
    (A : Arr Z h a cl ty) (E : Exa Z h a ad) (F : FitC Z cl) (hd : decode b.bytes pc = .ok (.invokevirtual index, 3)) (hcap : cl.slots.size ≤ cap) (hlen : cl.slots.size < 2147483648)
    (hf : 1 ≤ b.R.frames := by decide) {Wr : Nat} (hW : (st.map fun v => v.category).sum = Wr := by rfl) (hl : Wr + 14 ≤ b.R.locals := by decide) (hc : K + 1 ≤ b.R.cells := by decide) (hs : S + cap ≤ b.R.slots := by decide) (hLs : Ls.size = b.maxL := by rfl) (hpc : pc + 3 = pc' := by rfl) :
    ∃ h', Ext h h' ∧ (Ar Z h' h.size ty cl.slots.toList ∧ Exa Z h' h.size ad) ∧ Hr x b Z EL (K + 1) (S + cap) h' (h.size :: sf) pc' Ls (.ref h.size :: st) := by
  subst hpc hW
  refine H.alloc hc hs (P := fun h' => Ar Z h' h.size ty cl.slots.toList ∧ Exa Z h' h.size ad) (fun h' q => q.1.lt) fun T locs cells slots vm0 X eT hZ hown B hc' hl' => ?_
  obtain ⟨T', h', X', e', E', A', X2, st1⟩ := cloneA X B.2.1 hZ hown w1 w2 w3 w4 w5 w6 eT A E F (g := mkF x.m pc Ls (.ref a :: st)) rfl (hLs.trans B.2.2.2.1.symm) rfl (hb B.2.2.1 hd) hf (W := (st.map fun v => v.category).sum) (by show 2 * 0 + _ ≤ _; omega) hl hcap hc' hl'
  exact ⟨T', h', X', e', E', ⟨⟨_, A', rfl, by rw [Array.length_toList]; exact hlen⟩, X2⟩, st1⟩
end Layer4
end Jvm.Pilot.@@N@@
namespace Jvm.Pilot.@@N@@
open Jvm Jvm.ClassFile Sem Op Lib Bundle Jvm.Free Jvm.Stand Jvm.LawKit Jvm.RoadKit Jvm.Pilot.@@N@@.Jvm.D
theorem w0 {a0 : Array Value} {Z : State} (hw : ∀ d ∈ tables_1, d.before a0 Z = true) : ((Jvm.Cond.arrayClass Jvm.ClassFile.FieldType.char) : Jvm.Cond).before a0 Z = true := hw _ (List.mem_of_getElem? (i := 0) rfl)
theorem w1 {a0 : Array Value} {Z : State} (hw : ∀ d ∈ tables_1, d.before a0 Z = true) : ((Jvm.Cond.constantLong "com/example/pigeonhole/pigeonhole/cli/BrokerNamedPinLaw" (7 : Nat) (255 : Int64)) : Jvm.Cond).before a0 Z = true := hw _ (List.mem_of_getElem? (i := 1) rfl)
theorem w2 {a0 : Array Value} {Z : State} (hw : ∀ d ∈ tables_1, d.before a0 Z = true) : ((Jvm.Cond.methodLink "com/example/pigeonhole/pigeonhole/cli/BrokerNamedPinLaw" (10 : Nat) ({ cls := "com/example/pigeonhole/pigeonhole/cli/BrokerNamedPinLaw", name := "cut", desc := "([CI)Ljava/lang/String;" } : Jvm.MethodName)) : Jvm.Cond).before a0 Z = true := hw _ (List.mem_of_getElem? (i := 2) rfl)
theorem w3 {a0 : Array Value} {Z : State} (hw : ∀ d ∈ tables_1, d.before a0 Z = true) : ((Jvm.Cond.static ({ cls := "com/example/pigeonhole/pigeonhole/cli/BrokerNamedPinLaw", name := "cut", desc := "([CI)Ljava/lang/String;" } : Jvm.MethodName)) : Jvm.Cond).before a0 Z = true := hw _ (List.mem_of_getElem? (i := 3) rfl)
theorem w4 {a0 : Array Value} {Z : State} (hw : ∀ d ∈ tables_1, d.before a0 Z = true) : ((Jvm.Cond.initialized "com/example/pigeonhole/pigeonhole/cli/BrokerNamedPinLaw") : Jvm.Cond).before a0 Z = true := hw _ (List.mem_of_getElem? (i := 4) rfl)
theorem w5 {a0 : Array Value} {Z : State} (hw : ∀ d ∈ tables_1, d.before a0 Z = true) : ((Jvm.Cond.code ({ cls := "com/example/pigeonhole/pigeonhole/cli/BrokerNamedPinLaw", name := "cut", desc := "([CI)Ljava/lang/String;" } : Jvm.MethodName) method_3_code (2 : Nat) (Option.some (Jvm.ClassFile.FieldType.object "java/lang/String"))) : Jvm.Cond).before a0 Z = true := hw _ (List.mem_of_getElem? (i := 5) rfl)
theorem w6 {a0 : Array Value} {Z : State} (hw : ∀ d ∈ tables_1, d.before a0 Z = true) : ((Jvm.Cond.classLink "com/example/pigeonhole/pigeonhole/cli/BrokerNamedPinLaw" (25 : Nat) "java/lang/String") : Jvm.Cond).before a0 Z = true := hw _ (List.mem_of_getElem? (i := 6) rfl)
theorem w7 {a0 : Array Value} {Z : State} (hw : ∀ d ∈ tables_1, d.before a0 Z = true) : ((Jvm.Cond.instantiable "java/lang/String" (4 : Nat)) : Jvm.Cond).before a0 Z = true := hw _ (List.mem_of_getElem? (i := 7) rfl)
theorem w8 {a0 : Array Value} {Z : State} (hw : ∀ d ∈ tables_1, d.before a0 Z = true) : ((Jvm.Cond.initialized "java/lang/String") : Jvm.Cond).before a0 Z = true := hw _ (List.mem_of_getElem? (i := 8) rfl)
theorem w9 {a0 : Array Value} {Z : State} (hw : ∀ d ∈ tables_1, d.before a0 Z = true) : ((Jvm.Cond.methodLink "com/example/pigeonhole/pigeonhole/cli/BrokerNamedPinLaw" (39 : Nat) ({ cls := "java/lang/String", name := "<init>", desc := "([C)V" } : Jvm.MethodName)) : Jvm.Cond).before a0 Z = true := hw _ (List.mem_of_getElem? (i := 9) rfl)
theorem w10 {a0 : Array Value} {Z : State} (hw : ∀ d ∈ tables_1, d.before a0 Z = true) : ((Jvm.Cond.instanceMethod ({ cls := "java/lang/String", name := "<init>", desc := "([C)V" } : Jvm.MethodName)) : Jvm.Cond).before a0 Z = true := hw _ (List.mem_of_getElem? (i := 10) rfl)
theorem w11 {a0 : Array Value} {Z : State} (hw : ∀ d ∈ tables_1, d.before a0 Z = true) : ((Jvm.Cond.code ({ cls := "java/lang/String", name := "<init>", desc := "([C)V" } : Jvm.MethodName) jdk_42_method_3_code (2 : Nat) (Option.none : Option Jvm.ClassFile.FieldType)) : Jvm.Cond).before a0 Z = true := hw _ (List.mem_of_getElem? (i := 11) rfl)
theorem w12 {a0 : Array Value} {Z : State} (hw : ∀ d ∈ tables_1, d.before a0 Z = true) : ((Jvm.Cond.methodLink "java/lang/String" (27 : Nat) ({ cls := "java/lang/String", name := "<init>", desc := "([CIILjava/lang/Void;)V" } : Jvm.MethodName)) : Jvm.Cond).before a0 Z = true := hw _ (List.mem_of_getElem? (i := 12) rfl)
theorem w13 {a0 : Array Value} {Z : State} (hw : ∀ d ∈ tables_1, d.before a0 Z = true) : ((Jvm.Cond.instanceMethod ({ cls := "java/lang/String", name := "<init>", desc := "([CIILjava/lang/Void;)V" } : Jvm.MethodName)) : Jvm.Cond).before a0 Z = true := hw _ (List.mem_of_getElem? (i := 13) rfl)
theorem w15 {a0 : Array Value} {Z : State} (hw : ∀ d ∈ tables_1, d.before a0 Z = true) : ((Jvm.Cond.code ({ cls := "java/lang/String", name := "<init>", desc := "([CIILjava/lang/Void;)V" } : Jvm.MethodName) jdk_42_method_149_code (6 : Nat) (Option.none : Option Jvm.ClassFile.FieldType)) : Jvm.Cond).before a0 Z = true := hw _ (List.mem_of_getElem? (i := 15) rfl)
theorem w16 {a0 : Array Value} {Z : State} (hw : ∀ d ∈ tables_1, d.before a0 Z = true) : ((Jvm.Cond.methodLink "java/lang/String" (1 : Nat) ({ cls := "java/lang/Object", name := "<init>", desc := "()V" } : Jvm.MethodName)) : Jvm.Cond).before a0 Z = true := hw _ (List.mem_of_getElem? (i := 16) rfl)
theorem w17 {a0 : Array Value} {Z : State} (hw : ∀ d ∈ tables_1, d.before a0 Z = true) : ((Jvm.Cond.instanceMethod ({ cls := "java/lang/Object", name := "<init>", desc := "()V" } : Jvm.MethodName)) : Jvm.Cond).before a0 Z = true := hw _ (List.mem_of_getElem? (i := 17) rfl)
theorem w18 {a0 : Array Value} {Z : State} (hw : ∀ d ∈ tables_1, d.before a0 Z = true) : ((Jvm.Cond.code ({ cls := "java/lang/Object", name := "<init>", desc := "()V" } : Jvm.MethodName) object_method_1_code (1 : Nat) (Option.none : Option Jvm.ClassFile.FieldType)) : Jvm.Cond).before a0 Z = true := hw _ (List.mem_of_getElem? (i := 18) rfl)
theorem w19 {a0 : Array Value} {Z : State} (hw : ∀ d ∈ tables_1, d.before a0 Z = true) : ((Jvm.Cond.fieldLink "java/lang/String" (38 : Nat) "java/lang/String" "COMPACT_STRINGS" "Z") : Jvm.Cond).before a0 Z = true := hw _ (List.mem_of_getElem? (i := 19) rfl)
theorem w20 {a0 : Array Value} {Z : State} (hw : ∀ d ∈ tables_1, d.before a0 Z = true) : ((Jvm.Cond.methodLink "java/lang/String" (177 : Nat) ({ cls := "java/lang/StringUTF16", name := "compress", desc := "([CII)[B" } : Jvm.MethodName)) : Jvm.Cond).before a0 Z = true := hw _ (List.mem_of_getElem? (i := 20) rfl)
theorem w21 {a0 : Array Value} {Z : State} (hw : ∀ d ∈ tables_1, d.before a0 Z = true) : ((Jvm.Cond.static ({ cls := "java/lang/StringUTF16", name := "compress", desc := "([CII)[B" } : Jvm.MethodName)) : Jvm.Cond).before a0 Z = true := hw _ (List.mem_of_getElem? (i := 21) rfl)
theorem w22 {a0 : Array Value} {Z : State} (hw : ∀ d ∈ tables_1, d.before a0 Z = true) : ((Jvm.Cond.initialized "java/lang/StringUTF16") : Jvm.Cond).before a0 Z = true := hw _ (List.mem_of_getElem? (i := 22) rfl)
theorem w23 {a0 : Array Value} {Z : State} (hw : ∀ d ∈ tables_1, d.before a0 Z = true) : ((Jvm.Cond.code ({ cls := "java/lang/StringUTF16", name := "compress", desc := "([CII)[B" } : Jvm.MethodName) jdk_52_method_16_code (6 : Nat) (Option.some (Jvm.ClassFile.FieldType.array Jvm.ClassFile.FieldType.byte))) : Jvm.Cond).before a0 Z = true := hw _ (List.mem_of_getElem? (i := 23) rfl)
theorem w24 {a0 : Array Value} {Z : State} (hw : ∀ d ∈ tables_1, d.before a0 Z = true) : ((Jvm.Cond.arrayClass Jvm.ClassFile.FieldType.byte) : Jvm.Cond).before a0 Z = true := hw _ (List.mem_of_getElem? (i := 24) rfl)
theorem w25 {a0 : Array Value} {Z : State} (hw : ∀ d ∈ tables_1, d.before a0 Z = true) : ((Jvm.Cond.methodLink "java/lang/StringUTF16" (115 : Nat) ({ cls := "java/lang/StringUTF16", name := "compress", desc := "([CI[BII)I" } : Jvm.MethodName)) : Jvm.Cond).before a0 Z = true := hw _ (List.mem_of_getElem? (i := 25) rfl)
theorem w26 {a0 : Array Value} {Z : State} (hw : ∀ d ∈ tables_1, d.before a0 Z = true) : ((Jvm.Cond.static ({ cls := "java/lang/StringUTF16", name := "compress", desc := "([CI[BII)I" } : Jvm.MethodName)) : Jvm.Cond).before a0 Z = true := hw _ (List.mem_of_getElem? (i := 26) rfl)
theorem w27 {a0 : Array Value} {Z : State} (hw : ∀ d ∈ tables_1, d.before a0 Z = true) : ((Jvm.Cond.code ({ cls := "java/lang/StringUTF16", name := "compress", desc := "([CI[BII)I" } : Jvm.MethodName) jdk_52_method_21_code (7 : Nat) (Option.some Jvm.ClassFile.FieldType.int)) : Jvm.Cond).before a0 Z = true := hw _ (List.mem_of_getElem? (i := 27) rfl)
theorem w28 {a0 : Array Value} {Z : State} (hw : ∀ d ∈ tables_1, d.before a0 Z = true) : ((Jvm.Cond.methodLink "java/lang/String" (47 : Nat) ({ cls := "java/lang/StringUTF16", name := "coderFromArrayLen", desc := "([BI)B" } : Jvm.MethodName)) : Jvm.Cond).before a0 Z = true := hw _ (List.mem_of_getElem? (i := 28) rfl)
theorem w29 {a0 : Array Value} {Z : State} (hw : ∀ d ∈ tables_1, d.before a0 Z = true) : ((Jvm.Cond.static ({ cls := "java/lang/StringUTF16", name := "coderFromArrayLen", desc := "([BI)B" } : Jvm.MethodName)) : Jvm.Cond).before a0 Z = true := hw _ (List.mem_of_getElem? (i := 29) rfl)
theorem w30 {a0 : Array Value} {Z : State} (hw : ∀ d ∈ tables_1, d.before a0 Z = true) : ((Jvm.Cond.code ({ cls := "java/lang/StringUTF16", name := "coderFromArrayLen", desc := "([BI)B" } : Jvm.MethodName) jdk_52_method_15_code (2 : Nat) (Option.some Jvm.ClassFile.FieldType.byte)) : Jvm.Cond).before a0 Z = true := hw _ (List.mem_of_getElem? (i := 30) rfl)
theorem w31 {a0 : Array Value} {Z : State} (hw : ∀ d ∈ tables_1, d.before a0 Z = true) : ((Jvm.Cond.fieldLink "java/lang/String" (15 : Nat) "java/lang/String" "coder" "B") : Jvm.Cond).before a0 Z = true := hw _ (List.mem_of_getElem? (i := 31) rfl)
theorem w32 {a0 : Array Value} {Z : State} (hw : ∀ d ∈ tables_1, d.before a0 Z = true) : ((Jvm.Cond.laysFinal "java/lang/String" "java/lang/String" "coder" "B") : Jvm.Cond).before a0 Z = true := hw _ (List.mem_of_getElem? (i := 32) rfl)
theorem w33 {a0 : Array Value} {Z : State} (hw : ∀ d ∈ tables_1, d.before a0 Z = true) : ((Jvm.Cond.fieldLink "java/lang/String" (9 : Nat) "java/lang/String" "value" "[B") : Jvm.Cond).before a0 Z = true := hw _ (List.mem_of_getElem? (i := 33) rfl)
theorem w34 {a0 : Array Value} {Z : State} (hw : ∀ d ∈ tables_1, d.before a0 Z = true) : ((Jvm.Cond.laysFinal "java/lang/String" "java/lang/String" "value" "[B") : Jvm.Cond).before a0 Z = true := hw _ (List.mem_of_getElem? (i := 34) rfl)
theorem w35 {a0 : Array Value} {Z : State} (hw : ∀ d ∈ tables_1, d.before a0 Z = true) : ((Jvm.Cond.methodLink "com/example/pigeonhole/pigeonhole/cli/BrokerNamedPinLaw" (16 : Nat) ({ cls := "com/example/pigeonhole/pigeonhole/cli/Broker", name := "named", desc := "(Ljava/lang/String;)Lcom/example/pigeonhole/pigeonhole/cli/Broker;" } : Jvm.MethodName)) : Jvm.Cond).before a0 Z = true := hw _ (List.mem_of_getElem? (i := 35) rfl)
theorem w36 {a0 : Array Value} {Z : State} (hw : ∀ d ∈ tables_1, d.before a0 Z = true) : ((Jvm.Cond.static ({ cls := "com/example/pigeonhole/pigeonhole/cli/Broker", name := "named", desc := "(Ljava/lang/String;)Lcom/example/pigeonhole/pigeonhole/cli/Broker;" } : Jvm.MethodName)) : Jvm.Cond).before a0 Z = true := hw _ (List.mem_of_getElem? (i := 36) rfl)
theorem w37 {a0 : Array Value} {Z : State} (hw : ∀ d ∈ tables_1, d.before a0 Z = true) : ((Jvm.Cond.initialized "com/example/pigeonhole/pigeonhole/cli/Broker") : Jvm.Cond).before a0 Z = true := hw _ (List.mem_of_getElem? (i := 37) rfl)
theorem w38 {a0 : Array Value} {Z : State} (hw : ∀ d ∈ tables_1, d.before a0 Z = true) : ((Jvm.Cond.code ({ cls := "com/example/pigeonhole/pigeonhole/cli/Broker", name := "named", desc := "(Ljava/lang/String;)Lcom/example/pigeonhole/pigeonhole/cli/Broker;" } : Jvm.MethodName) prog_14_method_6_code (5 : Nat) (Option.some (Jvm.ClassFile.FieldType.object "com/example/pigeonhole/pigeonhole/cli/Broker"))) : Jvm.Cond).before a0 Z = true := hw _ (List.mem_of_getElem? (i := 38) rfl)
theorem w39 {a0 : Array Value} {Z : State} (hw : ∀ d ∈ tables_1, d.before a0 Z = true) : ((Jvm.Cond.methodLink "com/example/pigeonhole/pigeonhole/cli/Broker" (40 : Nat) ({ cls := "com/example/pigeonhole/pigeonhole/cli/Broker", name := "values", desc := "()[Lcom/example/pigeonhole/pigeonhole/cli/Broker;" } : Jvm.MethodName)) : Jvm.Cond).before a0 Z = true := hw _ (List.mem_of_getElem? (i := 39) rfl)
theorem w40 {a0 : Array Value} {Z : State} (hw : ∀ d ∈ tables_1, d.before a0 Z = true) : ((Jvm.Cond.static ({ cls := "com/example/pigeonhole/pigeonhole/cli/Broker", name := "values", desc := "()[Lcom/example/pigeonhole/pigeonhole/cli/Broker;" } : Jvm.MethodName)) : Jvm.Cond).before a0 Z = true := hw _ (List.mem_of_getElem? (i := 40) rfl)
theorem w41 {a0 : Array Value} {Z : State} (hw : ∀ d ∈ tables_1, d.before a0 Z = true) : ((Jvm.Cond.code ({ cls := "com/example/pigeonhole/pigeonhole/cli/Broker", name := "values", desc := "()[Lcom/example/pigeonhole/pigeonhole/cli/Broker;" } : Jvm.MethodName) prog_14_method_1_code (0 : Nat) (Option.some (Jvm.ClassFile.FieldType.array (Jvm.ClassFile.FieldType.object "com/example/pigeonhole/pigeonhole/cli/Broker")))) : Jvm.Cond).before a0 Z = true := hw _ (List.mem_of_getElem? (i := 41) rfl)
theorem w42 {a0 : Array Value} {Z : State} (hw : ∀ d ∈ tables_1, d.before a0 Z = true) : ((Jvm.Cond.fieldLink "com/example/pigeonhole/pigeonhole/cli/Broker" (10 : Nat) "com/example/pigeonhole/pigeonhole/cli/Broker" "$VALUES" "[Lcom/example/pigeonhole/pigeonhole/cli/Broker;") : Jvm.Cond).before a0 Z = true := hw _ (List.mem_of_getElem? (i := 42) rfl)
theorem w43 {a0 : Array Value} {Z : State} (hw : ∀ d ∈ tables_1, d.before a0 Z = true) : ((Jvm.Cond.laysStatic "com/example/pigeonhole/pigeonhole/cli/Broker" "$VALUES" "[Lcom/example/pigeonhole/pigeonhole/cli/Broker;") : Jvm.Cond).before a0 Z = true := hw _ (List.mem_of_getElem? (i := 43) rfl)
theorem w44 {a0 : Array Value} {Z : State} (hw : ∀ d ∈ tables_1, d.before a0 Z = true) : ((Jvm.Cond.methodLink "com/example/pigeonhole/pigeonhole/cli/Broker" (14 : Nat) ({ cls := "[Lcom/example/pigeonhole/pigeonhole/cli/Broker;", name := "clone", desc := "()Ljava/lang/Object;" } : Jvm.MethodName)) : Jvm.Cond).before a0 Z = true := hw _ (List.mem_of_getElem? (i := 44) rfl)
theorem w45 {a0 : Array Value} {Z : State} (hw : ∀ d ∈ tables_1, d.before a0 Z = true) : ((Jvm.Cond.sameMethod "[Lcom/example/pigeonhole/pigeonhole/cli/Broker;" "java/lang/Object" "clone" "()Ljava/lang/Object;") : Jvm.Cond).before a0 Z = true := hw _ (List.mem_of_getElem? (i := 45) rfl)
theorem w47 {a0 : Array Value} {Z : State} (hw : ∀ d ∈ tables_1, d.before a0 Z = true) : ((Jvm.Cond.instanceMethod ({ cls := "java/lang/Object", name := "clone", desc := "()Ljava/lang/Object;" } : Jvm.MethodName)) : Jvm.Cond).before a0 Z = true := hw _ (List.mem_of_getElem? (i := 47) rfl)
theorem w48 {a0 : Array Value} {Z : State} (hw : ∀ d ∈ tables_1, d.before a0 Z = true) : ((Jvm.Cond.selects "[Lcom/example/pigeonhole/pigeonhole/cli/Broker;" ({ cls := "[Lcom/example/pigeonhole/pigeonhole/cli/Broker;", name := "clone", desc := "()Ljava/lang/Object;" } : Jvm.MethodName) ({ cls := "java/lang/Object", name := "clone", desc := "()Ljava/lang/Object;" } : Jvm.MethodName)) : Jvm.Cond).before a0 Z = true := hw _ (List.mem_of_getElem? (i := 48) rfl)
theorem w49 {a0 : Array Value} {Z : State} (hw : ∀ d ∈ tables_1, d.before a0 Z = true) : ((Jvm.Cond.native ({ cls := "java/lang/Object", name := "clone", desc := "()Ljava/lang/Object;" } : Jvm.MethodName)) : Jvm.Cond).before a0 Z = true := hw _ (List.mem_of_getElem? (i := 49) rfl)
theorem w50 {a0 : Array Value} {Z : State} (hw : ∀ d ∈ tables_1, d.before a0 Z = true) : ((Jvm.Cond.castable "[Lcom/example/pigeonhole/pigeonhole/cli/Broker;" "java/lang/Cloneable") : Jvm.Cond).before a0 Z = true := hw _ (List.mem_of_getElem? (i := 50) rfl)
theorem w51 {a0 : Array Value} {Z : State} (hw : ∀ d ∈ tables_1, d.before a0 Z = true) : ((Jvm.Cond.laysStatic "com/example/pigeonhole/pigeonhole/cli/Broker" "RABBITMQ" "Lcom/example/pigeonhole/pigeonhole/cli/Broker;") : Jvm.Cond).before a0 Z = true := hw _ (List.mem_of_getElem? (i := 51) rfl)
theorem w52 {a0 : Array Value} {Z : State} (hw : ∀ d ∈ tables_1, d.before a0 Z = true) : ((Jvm.Cond.laysStatic "com/example/pigeonhole/pigeonhole/cli/Broker" "KAFKA" "Lcom/example/pigeonhole/pigeonhole/cli/Broker;") : Jvm.Cond).before a0 Z = true := hw _ (List.mem_of_getElem? (i := 52) rfl)
theorem w54 {a0 : Array Value} {Z : State} (hw : ∀ d ∈ tables_1, d.before a0 Z = true) : ((Jvm.Cond.classLink "com/example/pigeonhole/pigeonhole/cli/Broker" (15 : Nat) "[Lcom/example/pigeonhole/pigeonhole/cli/Broker;") : Jvm.Cond).before a0 Z = true := hw _ (List.mem_of_getElem? (i := 54) rfl)
theorem w56 {a0 : Array Value} {Z : State} (hw : ∀ d ∈ tables_1, d.before a0 Z = true) : ((Jvm.Cond.fieldLink "com/example/pigeonhole/pigeonhole/cli/Broker" (29 : Nat) "com/example/pigeonhole/pigeonhole/cli/Broker" "settingValue" "Ljava/lang/String;") : Jvm.Cond).before a0 Z = true := hw _ (List.mem_of_getElem? (i := 56) rfl)
theorem w58 {a0 : Array Value} {Z : State} (hw : ∀ d ∈ tables_1, d.before a0 Z = true) : ((Jvm.Cond.methodLink "com/example/pigeonhole/pigeonhole/cli/Broker" (44 : Nat) ({ cls := "java/lang/String", name := "equals", desc := "(Ljava/lang/Object;)Z" } : Jvm.MethodName)) : Jvm.Cond).before a0 Z = true := hw _ (List.mem_of_getElem? (i := 58) rfl)
theorem w59 {a0 : Array Value} {Z : State} (hw : ∀ d ∈ tables_1, d.before a0 Z = true) : ((Jvm.Cond.declares ({ cls := "java/lang/String", name := "equals", desc := "(Ljava/lang/Object;)Z" } : Jvm.MethodName)) : Jvm.Cond).before a0 Z = true := hw _ (List.mem_of_getElem? (i := 59) rfl)
theorem w60 {a0 : Array Value} {Z : State} (hw : ∀ d ∈ tables_1, d.before a0 Z = true) : ((Jvm.Cond.instanceMethod ({ cls := "java/lang/String", name := "equals", desc := "(Ljava/lang/Object;)Z" } : Jvm.MethodName)) : Jvm.Cond).before a0 Z = true := hw _ (List.mem_of_getElem? (i := 60) rfl)
theorem w61 {a0 : Array Value} {Z : State} (hw : ∀ d ∈ tables_1, d.before a0 Z = true) : ((Jvm.Cond.selects "java/lang/String" ({ cls := "java/lang/String", name := "equals", desc := "(Ljava/lang/Object;)Z" } : Jvm.MethodName) ({ cls := "java/lang/String", name := "equals", desc := "(Ljava/lang/Object;)Z" } : Jvm.MethodName)) : Jvm.Cond).before a0 Z = true := hw _ (List.mem_of_getElem? (i := 61) rfl)
theorem w62 {a0 : Array Value} {Z : State} (hw : ∀ d ∈ tables_1, d.before a0 Z = true) : ((Jvm.Cond.code ({ cls := "java/lang/String", name := "equals", desc := "(Ljava/lang/Object;)Z" } : Jvm.MethodName) jdk_42_method_66_code (3 : Nat) (Option.some Jvm.ClassFile.FieldType.boolean)) : Jvm.Cond).before a0 Z = true := hw _ (List.mem_of_getElem? (i := 62) rfl)
theorem w63 {a0 : Array Value} {Z : State} (hw : ∀ d ∈ tables_1, d.before a0 Z = true) : ((Jvm.Cond.classLink "java/lang/String" (10 : Nat) "java/lang/String") : Jvm.Cond).before a0 Z = true := hw _ (List.mem_of_getElem? (i := 63) rfl)
theorem w64 {a0 : Array Value} {Z : State} (hw : ∀ d ∈ tables_1, d.before a0 Z = true) : ((Jvm.Cond.methodLink "java/lang/String" (541 : Nat) ({ cls := "java/lang/StringLatin1", name := "equals", desc := "([B[B)Z" } : Jvm.MethodName)) : Jvm.Cond).before a0 Z = true := hw _ (List.mem_of_getElem? (i := 64) rfl)
theorem w65 {a0 : Array Value} {Z : State} (hw : ∀ d ∈ tables_1, d.before a0 Z = true) : ((Jvm.Cond.static ({ cls := "java/lang/StringLatin1", name := "equals", desc := "([B[B)Z" } : Jvm.MethodName)) : Jvm.Cond).before a0 Z = true := hw _ (List.mem_of_getElem? (i := 65) rfl)
theorem w66 {a0 : Array Value} {Z : State} (hw : ∀ d ∈ tables_1, d.before a0 Z = true) : ((Jvm.Cond.initialized "java/lang/StringLatin1") : Jvm.Cond).before a0 Z = true := hw _ (List.mem_of_getElem? (i := 66) rfl)
theorem w67 {a0 : Array Value} {Z : State} (hw : ∀ d ∈ tables_1, d.before a0 Z = true) : ((Jvm.Cond.code ({ cls := "java/lang/StringLatin1", name := "equals", desc := "([B[B)Z" } : Jvm.MethodName) jdk_43_method_13_code (3 : Nat) (Option.some Jvm.ClassFile.FieldType.boolean)) : Jvm.Cond).before a0 Z = true := hw _ (List.mem_of_getElem? (i := 67) rfl)
theorem w68 {a0 : Array Value} {Z : State} (hw : ∀ d ∈ tables_1, d.before a0 Z = true) : ((Jvm.Cond.stringLink "com/example/pigeonhole/pigeonhole/cli/BrokerNamedPinLaw" (22 : Nat) "rabbitmq") : Jvm.Cond).before a0 Z = true := hw _ (List.mem_of_getElem? (i := 68) rfl)
theorem w69 {a0 : Array Value} {Z : State} (hw : ∀ d ∈ tables_1, d.before a0 Z = true) : ((Jvm.Cond.soleField "java/lang/String" "value") : Jvm.Cond).before a0 Z = true := hw _ (List.mem_of_getElem? (i := 69) rfl)
theorem w70 {a0 : Array Value} {Z : State} (hw : ∀ d ∈ tables_1, d.before a0 Z = true) : ((Jvm.Cond.soleField "java/lang/String" "coder") : Jvm.Cond).before a0 Z = true := hw _ (List.mem_of_getElem? (i := 70) rfl)
theorem w71 {a0 : Array Value} {Z : State} (hw : ∀ d ∈ tables_1, d.before a0 Z = true) : ((Jvm.Cond.methodLink "com/example/pigeonhole/pigeonhole/cli/BrokerNamedPinLaw" (24 : Nat) ({ cls := "java/lang/String", name := "equals", desc := "(Ljava/lang/Object;)Z" } : Jvm.MethodName)) : Jvm.Cond).before a0 Z = true := hw _ (List.mem_of_getElem? (i := 71) rfl)
theorem w72 {a0 : Array Value} {Z : State} (hw : ∀ d ∈ tables_1, d.before a0 Z = true) : ((Jvm.Cond.stringLink "com/example/pigeonhole/pigeonhole/cli/BrokerNamedPinLaw" (34 : Nat) "kafka") : Jvm.Cond).before a0 Z = true := hw _ (List.mem_of_getElem? (i := 72) rfl)
theorem w73 {a0 : Array Value} {Z : State} (hw : ∀ d ∈ tables_1, d.before a0 Z = true) : ((Jvm.Cond.fieldLink "com/example/pigeonhole/pigeonhole/cli/BrokerNamedPinLaw" (36 : Nat) "com/example/pigeonhole/pigeonhole/cli/Broker" "KAFKA" "Lcom/example/pigeonhole/pigeonhole/cli/Broker;") : Jvm.Cond).before a0 Z = true := hw _ (List.mem_of_getElem? (i := 73) rfl)
theorem w74 {a0 : Array Value} {Z : State} (hw : ∀ d ∈ tables_1, d.before a0 Z = true) : ((Jvm.Cond.constant "com/example/pigeonhole/pigeonhole/cli/BrokerNamedPinLaw" (9 : Nat) (2147483647 : Int32)) : Jvm.Cond).before a0 Z = true := hw _ (List.mem_of_getElem? (i := 74) rfl)
theorem w75 {a0 : Array Value} {Z : State} (hw : ∀ d ∈ tables_1, d.before a0 Z = true) : ((Jvm.Cond.stringLink "java/lang/String" (7 : Nat) "") : Jvm.Cond).before a0 Z = true := hw _ (List.mem_of_getElem? (i := 75) rfl)
theorem w76 {a0 : Array Value} {Z : State} (hw : ∀ d ∈ tables_1, d.before a0 Z = true) : ((Jvm.Cond.methodLink "com/example/pigeonhole/pigeonhole/cli/BrokerNamedPinLaw" (42 : Nat) ({ cls := "java/lang/String", name := "valueOf", desc := "(C)Ljava/lang/String;" } : Jvm.MethodName)) : Jvm.Cond).before a0 Z = true := hw _ (List.mem_of_getElem? (i := 76) rfl)
theorem w77 {a0 : Array Value} {Z : State} (hw : ∀ d ∈ tables_1, d.before a0 Z = true) : ((Jvm.Cond.static ({ cls := "java/lang/String", name := "valueOf", desc := "(C)Ljava/lang/String;" } : Jvm.MethodName)) : Jvm.Cond).before a0 Z = true := hw _ (List.mem_of_getElem? (i := 77) rfl)
theorem w78 {a0 : Array Value} {Z : State} (hw : ∀ d ∈ tables_1, d.before a0 Z = true) : ((Jvm.Cond.code ({ cls := "java/lang/String", name := "valueOf", desc := "(C)Ljava/lang/String;" } : Jvm.MethodName) jdk_42_method_139_code (1 : Nat) (Option.some (Jvm.ClassFile.FieldType.object "java/lang/String"))) : Jvm.Cond).before a0 Z = true := hw _ (List.mem_of_getElem? (i := 78) rfl)
theorem w79 {a0 : Array Value} {Z : State} (hw : ∀ d ∈ tables_1, d.before a0 Z = true) : ((Jvm.Cond.methodLink "java/lang/String" (1015 : Nat) ({ cls := "java/lang/StringLatin1", name := "canEncode", desc := "(C)Z" } : Jvm.MethodName)) : Jvm.Cond).before a0 Z = true := hw _ (List.mem_of_getElem? (i := 79) rfl)
theorem w80 {a0 : Array Value} {Z : State} (hw : ∀ d ∈ tables_1, d.before a0 Z = true) : ((Jvm.Cond.static ({ cls := "java/lang/StringLatin1", name := "canEncode", desc := "(C)Z" } : Jvm.MethodName)) : Jvm.Cond).before a0 Z = true := hw _ (List.mem_of_getElem? (i := 80) rfl)
theorem w81 {a0 : Array Value} {Z : State} (hw : ∀ d ∈ tables_1, d.before a0 Z = true) : ((Jvm.Cond.code ({ cls := "java/lang/StringLatin1", name := "canEncode", desc := "(C)Z" } : Jvm.MethodName) jdk_43_method_3_code (1 : Nat) (Option.some Jvm.ClassFile.FieldType.boolean)) : Jvm.Cond).before a0 Z = true := hw _ (List.mem_of_getElem? (i := 81) rfl)
theorem w82 {a0 : Array Value} {Z : State} (hw : ∀ d ∈ tables_1, d.before a0 Z = true) : ((Jvm.Cond.methodLink "java/lang/String" (1018 : Nat) ({ cls := "java/lang/StringLatin1", name := "toBytes", desc := "(C)[B" } : Jvm.MethodName)) : Jvm.Cond).before a0 Z = true := hw _ (List.mem_of_getElem? (i := 82) rfl)
theorem w83 {a0 : Array Value} {Z : State} (hw : ∀ d ∈ tables_1, d.before a0 Z = true) : ((Jvm.Cond.static ({ cls := "java/lang/StringLatin1", name := "toBytes", desc := "(C)[B" } : Jvm.MethodName)) : Jvm.Cond).before a0 Z = true := hw _ (List.mem_of_getElem? (i := 83) rfl)
theorem w84 {a0 : Array Value} {Z : State} (hw : ∀ d ∈ tables_1, d.before a0 Z = true) : ((Jvm.Cond.code ({ cls := "java/lang/StringLatin1", name := "toBytes", desc := "(C)[B" } : Jvm.MethodName) jdk_43_method_46_code (1 : Nat) (Option.some (Jvm.ClassFile.FieldType.array Jvm.ClassFile.FieldType.byte))) : Jvm.Cond).before a0 Z = true := hw _ (List.mem_of_getElem? (i := 84) rfl)
theorem w85 {a0 : Array Value} {Z : State} (hw : ∀ d ∈ tables_1, d.before a0 Z = true) : ((Jvm.Cond.methodLink "java/lang/String" (209 : Nat) ({ cls := "java/lang/String", name := "<init>", desc := "([BB)V" } : Jvm.MethodName)) : Jvm.Cond).before a0 Z = true := hw _ (List.mem_of_getElem? (i := 85) rfl)
theorem w86 {a0 : Array Value} {Z : State} (hw : ∀ d ∈ tables_1, d.before a0 Z = true) : ((Jvm.Cond.instanceMethod ({ cls := "java/lang/String", name := "<init>", desc := "([BB)V" } : Jvm.MethodName)) : Jvm.Cond).before a0 Z = true := hw _ (List.mem_of_getElem? (i := 86) rfl)
theorem w87 {a0 : Array Value} {Z : State} (hw : ∀ d ∈ tables_1, d.before a0 Z = true) : ((Jvm.Cond.code ({ cls := "java/lang/String", name := "<init>", desc := "([BB)V" } : Jvm.MethodName) jdk_42_method_151_code (3 : Nat) (Option.none : Option Jvm.ClassFile.FieldType)) : Jvm.Cond).before a0 Z = true := hw _ (List.mem_of_getElem? (i := 87) rfl)
theorem w88 {a0 : Array Value} {Z : State} (hw : ∀ d ∈ tables_1, d.before a0 Z = true) : ((Jvm.Cond.fieldLink "com/example/pigeonhole/pigeonhole/cli/BrokerNamedPinLaw" (30 : Nat) "com/example/pigeonhole/pigeonhole/cli/Broker" "RABBITMQ" "Lcom/example/pigeonhole/pigeonhole/cli/Broker;") : Jvm.Cond).before a0 Z = true := hw _ (List.mem_of_getElem? (i := 88) rfl)
theorem wStr {a0 : Array Value} {Z : State} (hw : ∀ d ∈ tables_1, d.before a0 Z = true) : ∀ d ∈ Bundle.stringAtoms, d.before a0 Z = true := fun d hd => by
  simp only [Bundle.stringAtoms, List.mem_cons, List.not_mem_nil, or_false] at hd
  rcases hd with rfl | rfl | rfl | rfl | rfl | rfl | rfl
  · exact (w8 hw)
  · exact (w7 hw)
  · exact (w24 hw)
  · exact (w34 hw)
  · exact (w32 hw)
  · exact (w69 hw)
  · exact (w70 hw)
abbrev EL1 : List (String × Nat) := consts_1
theorem ew {a0 : Array Value} {Z : State} (hw : ∀ d ∈ tables_1, d.before a0 Z = true) : EW Z a0 EL1 := EW.cons (w68 hw) (by decide) (EW.cons (w72 hw) (by decide) (EW.cons (w75 hw) (by decide) (EW.nil)))
theorem d_vof_0 : decode jdk_42_method_139_code 0 = .ok (.getstatic 38, 3) := by decide +kernel
theorem d_vof_3 : decode jdk_42_method_139_code 3 = .ok (.ifCond .eq 23, 3) := by decide +kernel
theorem d_vof_6 : decode jdk_42_method_139_code 6 = .ok (.iload_n 0, 1) := by decide +kernel
theorem d_vof_7 : decode jdk_42_method_139_code 7 = .ok (.invokestatic 1015, 3) := by decide +kernel
theorem d_vof_10 : decode jdk_42_method_139_code 10 = .ok (.ifCond .eq 16, 3) := by decide +kernel
theorem d_vof_13 : decode jdk_42_method_139_code 13 = .ok (.new 10, 3) := by decide +kernel
theorem d_vof_16 : decode jdk_42_method_139_code 16 = .ok (.dup, 1) := by decide +kernel
theorem d_vof_17 : decode jdk_42_method_139_code 17 = .ok (.iload_n 0, 1) := by decide +kernel
theorem d_vof_18 : decode jdk_42_method_139_code 18 = .ok (.invokestatic 1018, 3) := by decide +kernel
theorem d_vof_21 : decode jdk_42_method_139_code 21 = .ok (.iconst 0, 1) := by decide +kernel
theorem d_vof_22 : decode jdk_42_method_139_code 22 = .ok (.invokespecial 209, 3) := by decide +kernel
theorem d_vof_25 : decode jdk_42_method_139_code 25 = .ok (.areturn, 1) := by decide +kernel
theorem d_sini4_0 : decode jdk_42_method_149_code 0 = .ok (.aload_n 0, 1) := by decide +kernel
theorem d_sini4_1 : decode jdk_42_method_149_code 1 = .ok (.invokespecial 1, 3) := by decide +kernel
theorem d_sini4_4 : decode jdk_42_method_149_code 4 = .ok (.iload_n 3, 1) := by decide +kernel
theorem d_sini4_5 : decode jdk_42_method_149_code 5 = .ok (.ifCond .ne 22, 3) := by decide +kernel
theorem d_sini4_8 : decode jdk_42_method_149_code 8 = .ok (.aload_n 0, 1) := by decide +kernel
theorem d_sini4_9 : decode jdk_42_method_149_code 9 = .ok (.ldc 7, 2) := by decide +kernel
theorem d_sini4_11 : decode jdk_42_method_149_code 11 = .ok (.getfield 9, 3) := by decide +kernel
theorem d_sini4_14 : decode jdk_42_method_149_code 14 = .ok (.putfield 9, 3) := by decide +kernel
theorem d_sini4_17 : decode jdk_42_method_149_code 17 = .ok (.aload_n 0, 1) := by decide +kernel
theorem d_sini4_18 : decode jdk_42_method_149_code 18 = .ok (.ldc 7, 2) := by decide +kernel
theorem d_sini4_20 : decode jdk_42_method_149_code 20 = .ok (.getfield 15, 3) := by decide +kernel
theorem d_sini4_23 : decode jdk_42_method_149_code 23 = .ok (.putfield 15, 3) := by decide +kernel
theorem d_sini4_26 : decode jdk_42_method_149_code 26 = .ok (.return_, 1) := by decide +kernel
theorem d_sini4_27 : decode jdk_42_method_149_code 27 = .ok (.getstatic 38, 3) := by decide +kernel
theorem d_sini4_30 : decode jdk_42_method_149_code 30 = .ok (.ifCond .eq 28, 3) := by decide +kernel
theorem d_sini4_33 : decode jdk_42_method_149_code 33 = .ok (.aload_n 1, 1) := by decide +kernel
theorem d_sini4_34 : decode jdk_42_method_149_code 34 = .ok (.iload_n 2, 1) := by decide +kernel
theorem d_sini4_35 : decode jdk_42_method_149_code 35 = .ok (.iload_n 3, 1) := by decide +kernel
theorem d_sini4_36 : decode jdk_42_method_149_code 36 = .ok (.invokestatic 177, 3) := by decide +kernel
theorem d_sini4_39 : decode jdk_42_method_149_code 39 = .ok (.astore 5, 2) := by decide +kernel
theorem d_sini4_41 : decode jdk_42_method_149_code 41 = .ok (.aload_n 0, 1) := by decide +kernel
theorem d_sini4_42 : decode jdk_42_method_149_code 42 = .ok (.aload 5, 2) := by decide +kernel
theorem d_sini4_44 : decode jdk_42_method_149_code 44 = .ok (.iload_n 3, 1) := by decide +kernel
theorem d_sini4_45 : decode jdk_42_method_149_code 45 = .ok (.invokestatic 47, 3) := by decide +kernel
theorem d_sini4_48 : decode jdk_42_method_149_code 48 = .ok (.putfield 15, 3) := by decide +kernel
theorem d_sini4_51 : decode jdk_42_method_149_code 51 = .ok (.aload_n 0, 1) := by decide +kernel
theorem d_sini4_52 : decode jdk_42_method_149_code 52 = .ok (.aload 5, 2) := by decide +kernel
theorem d_sini4_54 : decode jdk_42_method_149_code 54 = .ok (.putfield 9, 3) := by decide +kernel
theorem d_sini4_57 : decode jdk_42_method_149_code 57 = .ok (.return_, 1) := by decide +kernel
theorem d_sinib_0 : decode jdk_42_method_151_code 0 = .ok (.aload_n 0, 1) := by decide +kernel
theorem d_sinib_1 : decode jdk_42_method_151_code 1 = .ok (.invokespecial 1, 3) := by decide +kernel
theorem d_sinib_4 : decode jdk_42_method_151_code 4 = .ok (.aload_n 0, 1) := by decide +kernel
theorem d_sinib_5 : decode jdk_42_method_151_code 5 = .ok (.aload_n 1, 1) := by decide +kernel
theorem d_sinib_6 : decode jdk_42_method_151_code 6 = .ok (.putfield 9, 3) := by decide +kernel
theorem d_sinib_9 : decode jdk_42_method_151_code 9 = .ok (.aload_n 0, 1) := by decide +kernel
theorem d_sinib_10 : decode jdk_42_method_151_code 10 = .ok (.iload_n 2, 1) := by decide +kernel
theorem d_sinib_11 : decode jdk_42_method_151_code 11 = .ok (.putfield 15, 3) := by decide +kernel
theorem d_sinib_14 : decode jdk_42_method_151_code 14 = .ok (.return_, 1) := by decide +kernel
theorem d_sini1_0 : decode jdk_42_method_3_code 0 = .ok (.aload_n 0, 1) := by decide +kernel
theorem d_sini1_1 : decode jdk_42_method_3_code 1 = .ok (.aload_n 1, 1) := by decide +kernel
theorem d_sini1_2 : decode jdk_42_method_3_code 2 = .ok (.iconst 0, 1) := by decide +kernel
theorem d_sini1_3 : decode jdk_42_method_3_code 3 = .ok (.aload_n 1, 1) := by decide +kernel
theorem d_sini1_4 : decode jdk_42_method_3_code 4 = .ok (.arraylength, 1) := by decide +kernel
theorem d_sini1_5 : decode jdk_42_method_3_code 5 = .ok (.aconst_null, 1) := by decide +kernel
theorem d_sini1_6 : decode jdk_42_method_3_code 6 = .ok (.invokespecial 27, 3) := by decide +kernel
theorem d_sini1_9 : decode jdk_42_method_3_code 9 = .ok (.return_, 1) := by decide +kernel
theorem d_seq_0 : decode jdk_42_method_66_code 0 = .ok (.aload_n 0, 1) := by decide +kernel
theorem d_seq_1 : decode jdk_42_method_66_code 1 = .ok (.aload_n 1, 1) := by decide +kernel
theorem d_seq_2 : decode jdk_42_method_66_code 2 = .ok (.if_acmp .ne 5, 3) := by decide +kernel
theorem d_seq_5 : decode jdk_42_method_66_code 5 = .ok (.iconst 1, 1) := by decide +kernel
theorem d_seq_6 : decode jdk_42_method_66_code 6 = .ok (.ireturn, 1) := by decide +kernel
theorem d_seq_7 : decode jdk_42_method_66_code 7 = .ok (.aload_n 1, 1) := by decide +kernel
theorem d_seq_8 : decode jdk_42_method_66_code 8 = .ok (.instanceof 10, 3) := by decide +kernel
theorem d_seq_11 : decode jdk_42_method_66_code 11 = .ok (.ifCond .eq 43, 3) := by decide +kernel
theorem d_seq_14 : decode jdk_42_method_66_code 14 = .ok (.aload_n 1, 1) := by decide +kernel
theorem d_seq_15 : decode jdk_42_method_66_code 15 = .ok (.checkcast 10, 3) := by decide +kernel
theorem d_seq_18 : decode jdk_42_method_66_code 18 = .ok (.astore_n 2, 1) := by decide +kernel
theorem d_seq_19 : decode jdk_42_method_66_code 19 = .ok (.getstatic 38, 3) := by decide +kernel
theorem d_seq_22 : decode jdk_42_method_66_code 22 = .ok (.ifCond .eq 14, 3) := by decide +kernel
theorem d_seq_25 : decode jdk_42_method_66_code 25 = .ok (.aload_n 0, 1) := by decide +kernel
theorem d_seq_26 : decode jdk_42_method_66_code 26 = .ok (.getfield 15, 3) := by decide +kernel
theorem d_seq_29 : decode jdk_42_method_66_code 29 = .ok (.aload_n 2, 1) := by decide +kernel
theorem d_seq_30 : decode jdk_42_method_66_code 30 = .ok (.getfield 15, 3) := by decide +kernel
theorem d_seq_33 : decode jdk_42_method_66_code 33 = .ok (.if_icmp .ne 21, 3) := by decide +kernel
theorem d_seq_36 : decode jdk_42_method_66_code 36 = .ok (.aload_n 0, 1) := by decide +kernel
theorem d_seq_37 : decode jdk_42_method_66_code 37 = .ok (.getfield 9, 3) := by decide +kernel
theorem d_seq_40 : decode jdk_42_method_66_code 40 = .ok (.aload_n 2, 1) := by decide +kernel
theorem d_seq_41 : decode jdk_42_method_66_code 41 = .ok (.getfield 9, 3) := by decide +kernel
theorem d_seq_44 : decode jdk_42_method_66_code 44 = .ok (.invokestatic 541, 3) := by decide +kernel
theorem d_seq_47 : decode jdk_42_method_66_code 47 = .ok (.ifCond .eq 7, 3) := by decide +kernel
theorem d_seq_50 : decode jdk_42_method_66_code 50 = .ok (.iconst 1, 1) := by decide +kernel
theorem d_seq_51 : decode jdk_42_method_66_code 51 = .ok (.goto 4, 3) := by decide +kernel
theorem d_seq_54 : decode jdk_42_method_66_code 54 = .ok (.iconst 0, 1) := by decide +kernel
theorem d_seq_55 : decode jdk_42_method_66_code 55 = .ok (.ireturn, 1) := by decide +kernel
theorem d_leq_0 : decode jdk_43_method_13_code 0 = .ok (.aload_n 0, 1) := by decide +kernel
theorem d_leq_1 : decode jdk_43_method_13_code 1 = .ok (.arraylength, 1) := by decide +kernel
theorem d_leq_2 : decode jdk_43_method_13_code 2 = .ok (.aload_n 1, 1) := by decide +kernel
theorem d_leq_3 : decode jdk_43_method_13_code 3 = .ok (.arraylength, 1) := by decide +kernel
theorem d_leq_4 : decode jdk_43_method_13_code 4 = .ok (.if_icmp .ne 30, 3) := by decide +kernel
theorem d_leq_7 : decode jdk_43_method_13_code 7 = .ok (.iconst 0, 1) := by decide +kernel
theorem d_leq_8 : decode jdk_43_method_13_code 8 = .ok (.istore_n 2, 1) := by decide +kernel
theorem d_leq_9 : decode jdk_43_method_13_code 9 = .ok (.iload_n 2, 1) := by decide +kernel
theorem d_leq_10 : decode jdk_43_method_13_code 10 = .ok (.aload_n 0, 1) := by decide +kernel
theorem d_leq_11 : decode jdk_43_method_13_code 11 = .ok (.arraylength, 1) := by decide +kernel
theorem d_leq_12 : decode jdk_43_method_13_code 12 = .ok (.if_icmp .ge 20, 3) := by decide +kernel
theorem d_leq_15 : decode jdk_43_method_13_code 15 = .ok (.aload_n 0, 1) := by decide +kernel
theorem d_leq_16 : decode jdk_43_method_13_code 16 = .ok (.iload_n 2, 1) := by decide +kernel
theorem d_leq_17 : decode jdk_43_method_13_code 17 = .ok (.baload, 1) := by decide +kernel
theorem d_leq_18 : decode jdk_43_method_13_code 18 = .ok (.aload_n 1, 1) := by decide +kernel
theorem d_leq_19 : decode jdk_43_method_13_code 19 = .ok (.iload_n 2, 1) := by decide +kernel
theorem d_leq_20 : decode jdk_43_method_13_code 20 = .ok (.baload, 1) := by decide +kernel
theorem d_leq_21 : decode jdk_43_method_13_code 21 = .ok (.if_icmp .eq 5, 3) := by decide +kernel
theorem d_leq_24 : decode jdk_43_method_13_code 24 = .ok (.iconst 0, 1) := by decide +kernel
theorem d_leq_25 : decode jdk_43_method_13_code 25 = .ok (.ireturn, 1) := by decide +kernel
theorem d_leq_26 : decode jdk_43_method_13_code 26 = .ok (.iinc 2 1, 3) := by decide +kernel
theorem d_leq_29 : decode jdk_43_method_13_code 29 = .ok (.goto (-20), 3) := by decide +kernel
theorem d_leq_32 : decode jdk_43_method_13_code 32 = .ok (.iconst 1, 1) := by decide +kernel
theorem d_leq_33 : decode jdk_43_method_13_code 33 = .ok (.ireturn, 1) := by decide +kernel
theorem d_leq_34 : decode jdk_43_method_13_code 34 = .ok (.iconst 0, 1) := by decide +kernel
theorem d_leq_35 : decode jdk_43_method_13_code 35 = .ok (.ireturn, 1) := by decide +kernel
theorem d_cenc_0 : decode jdk_43_method_3_code 0 = .ok (.iload_n 0, 1) := by decide +kernel
theorem d_cenc_1 : decode jdk_43_method_3_code 1 = .ok (.sipush 255, 3) := by decide +kernel
theorem d_cenc_4 : decode jdk_43_method_3_code 4 = .ok (.if_icmp .gt 7, 3) := by decide +kernel
theorem d_cenc_7 : decode jdk_43_method_3_code 7 = .ok (.iconst 1, 1) := by decide +kernel
theorem d_cenc_8 : decode jdk_43_method_3_code 8 = .ok (.goto 4, 3) := by decide +kernel
theorem d_cenc_12 : decode jdk_43_method_3_code 12 = .ok (.ireturn, 1) := by decide +kernel
theorem d_tob_0 : decode jdk_43_method_46_code 0 = .ok (.iconst 1, 1) := by decide +kernel
theorem d_tob_1 : decode jdk_43_method_46_code 1 = .ok (.newarray .byte, 2) := by decide +kernel
theorem d_tob_3 : decode jdk_43_method_46_code 3 = .ok (.dup, 1) := by decide +kernel
theorem d_tob_4 : decode jdk_43_method_46_code 4 = .ok (.iconst 0, 1) := by decide +kernel
theorem d_tob_5 : decode jdk_43_method_46_code 5 = .ok (.iload_n 0, 1) := by decide +kernel
theorem d_tob_6 : decode jdk_43_method_46_code 6 = .ok (.i2b, 1) := by decide +kernel
theorem d_tob_7 : decode jdk_43_method_46_code 7 = .ok (.bastore, 1) := by decide +kernel
theorem d_tob_8 : decode jdk_43_method_46_code 8 = .ok (.areturn, 1) := by decide +kernel
theorem d_cfal_0 : decode jdk_52_method_15_code 0 = .ok (.iload_n 1, 1) := by decide +kernel
theorem d_cfal_1 : decode jdk_52_method_15_code 1 = .ok (.aload_n 0, 1) := by decide +kernel
theorem d_cfal_2 : decode jdk_52_method_15_code 2 = .ok (.arraylength, 1) := by decide +kernel
theorem d_cfal_3 : decode jdk_52_method_15_code 3 = .ok (.isub, 1) := by decide +kernel
theorem d_cfal_4 : decode jdk_52_method_15_code 4 = .ok (.bipush 31, 2) := by decide +kernel
theorem d_cfal_6 : decode jdk_52_method_15_code 6 = .ok (.iushr, 1) := by decide +kernel
theorem d_cfal_7 : decode jdk_52_method_15_code 7 = .ok (.i2b, 1) := by decide +kernel
theorem d_cfal_8 : decode jdk_52_method_15_code 8 = .ok (.ireturn, 1) := by decide +kernel
theorem d_cmp3_0 : decode jdk_52_method_16_code 0 = .ok (.iload_n 2, 1) := by decide +kernel
theorem d_cmp3_1 : decode jdk_52_method_16_code 1 = .ok (.newarray .byte, 2) := by decide +kernel
theorem d_cmp3_3 : decode jdk_52_method_16_code 3 = .ok (.astore_n 3, 1) := by decide +kernel
theorem d_cmp3_4 : decode jdk_52_method_16_code 4 = .ok (.aload_n 0, 1) := by decide +kernel
theorem d_cmp3_5 : decode jdk_52_method_16_code 5 = .ok (.iload_n 1, 1) := by decide +kernel
theorem d_cmp3_6 : decode jdk_52_method_16_code 6 = .ok (.aload_n 3, 1) := by decide +kernel
theorem d_cmp3_7 : decode jdk_52_method_16_code 7 = .ok (.iconst 0, 1) := by decide +kernel
theorem d_cmp3_8 : decode jdk_52_method_16_code 8 = .ok (.iload_n 2, 1) := by decide +kernel
theorem d_cmp3_9 : decode jdk_52_method_16_code 9 = .ok (.invokestatic 115, 3) := by decide +kernel
theorem d_cmp3_12 : decode jdk_52_method_16_code 12 = .ok (.istore 4, 2) := by decide +kernel
theorem d_cmp3_14 : decode jdk_52_method_16_code 14 = .ok (.iload 4, 2) := by decide +kernel
theorem d_cmp3_16 : decode jdk_52_method_16_code 16 = .ok (.iload_n 2, 1) := by decide +kernel
theorem d_cmp3_17 : decode jdk_52_method_16_code 17 = .ok (.if_icmp .eq 40, 3) := by decide +kernel
theorem d_cmp3_57 : decode jdk_52_method_16_code 57 = .ok (.aload_n 3, 1) := by decide +kernel
theorem d_cmp3_58 : decode jdk_52_method_16_code 58 = .ok (.areturn, 1) := by decide +kernel
theorem d_cmp5_0 : decode jdk_52_method_21_code 0 = .ok (.iconst 0, 1) := by decide +kernel
theorem d_cmp5_1 : decode jdk_52_method_21_code 1 = .ok (.istore 5, 2) := by decide +kernel
theorem d_cmp5_3 : decode jdk_52_method_21_code 3 = .ok (.iload 5, 2) := by decide +kernel
theorem d_cmp5_5 : decode jdk_52_method_21_code 5 = .ok (.iload 4, 2) := by decide +kernel
theorem d_cmp5_7 : decode jdk_52_method_21_code 7 = .ok (.if_icmp .ge 37, 3) := by decide +kernel
theorem d_cmp5_10 : decode jdk_52_method_21_code 10 = .ok (.aload_n 0, 1) := by decide +kernel
theorem d_cmp5_11 : decode jdk_52_method_21_code 11 = .ok (.iload_n 1, 1) := by decide +kernel
theorem d_cmp5_12 : decode jdk_52_method_21_code 12 = .ok (.caload, 1) := by decide +kernel
theorem d_cmp5_13 : decode jdk_52_method_21_code 13 = .ok (.istore 6, 2) := by decide +kernel
theorem d_cmp5_15 : decode jdk_52_method_21_code 15 = .ok (.iload 6, 2) := by decide +kernel
theorem d_cmp5_17 : decode jdk_52_method_21_code 17 = .ok (.sipush 255, 3) := by decide +kernel
theorem d_cmp5_20 : decode jdk_52_method_21_code 20 = .ok (.if_icmp .le 6, 3) := by decide +kernel
theorem d_cmp5_26 : decode jdk_52_method_21_code 26 = .ok (.aload_n 2, 1) := by decide +kernel
theorem d_cmp5_27 : decode jdk_52_method_21_code 27 = .ok (.iload_n 3, 1) := by decide +kernel
theorem d_cmp5_28 : decode jdk_52_method_21_code 28 = .ok (.iload 6, 2) := by decide +kernel
theorem d_cmp5_30 : decode jdk_52_method_21_code 30 = .ok (.i2b, 1) := by decide +kernel
theorem d_cmp5_31 : decode jdk_52_method_21_code 31 = .ok (.bastore, 1) := by decide +kernel
theorem d_cmp5_32 : decode jdk_52_method_21_code 32 = .ok (.iinc 1 1, 3) := by decide +kernel
theorem d_cmp5_35 : decode jdk_52_method_21_code 35 = .ok (.iinc 3 1, 3) := by decide +kernel
theorem d_cmp5_38 : decode jdk_52_method_21_code 38 = .ok (.iinc 5 1, 3) := by decide +kernel
theorem d_cmp5_41 : decode jdk_52_method_21_code 41 = .ok (.goto (-38), 3) := by decide +kernel
theorem d_cmp5_44 : decode jdk_52_method_21_code 44 = .ok (.iload 4, 2) := by decide +kernel
theorem d_cmp5_46 : decode jdk_52_method_21_code 46 = .ok (.ireturn, 1) := by decide +kernel
theorem d_cut_0 : decode method_3_code 0 = .ok (.iload_n 1, 1) := by decide +kernel
theorem d_cut_1 : decode method_3_code 1 = .ok (.ifCond .ne 14, 3) := by decide +kernel
theorem d_cut_4 : decode method_3_code 4 = .ok (.new 25, 3) := by decide +kernel
theorem d_cut_7 : decode method_3_code 7 = .ok (.dup, 1) := by decide +kernel
theorem d_cut_8 : decode method_3_code 8 = .ok (.iconst 0, 1) := by decide +kernel
theorem d_cut_9 : decode method_3_code 9 = .ok (.newarray .char, 2) := by decide +kernel
theorem d_cut_11 : decode method_3_code 11 = .ok (.invokespecial 39, 3) := by decide +kernel
theorem d_cut_14 : decode method_3_code 14 = .ok (.areturn, 1) := by decide +kernel
theorem d_cut_15 : decode method_3_code 15 = .ok (.iload_n 1, 1) := by decide +kernel
theorem d_cut_16 : decode method_3_code 16 = .ok (.iconst 1, 1) := by decide +kernel
theorem d_cut_17 : decode method_3_code 17 = .ok (.if_icmp .ne 10, 3) := by decide +kernel
theorem d_cut_20 : decode method_3_code 20 = .ok (.aload_n 0, 1) := by decide +kernel
theorem d_cut_21 : decode method_3_code 21 = .ok (.iconst 0, 1) := by decide +kernel
theorem d_cut_22 : decode method_3_code 22 = .ok (.caload, 1) := by decide +kernel
theorem d_cut_23 : decode method_3_code 23 = .ok (.invokestatic 42, 3) := by decide +kernel
theorem d_cut_26 : decode method_3_code 26 = .ok (.areturn, 1) := by decide +kernel
theorem d_cut_27 : decode method_3_code 27 = .ok (.iload_n 1, 1) := by decide +kernel
theorem d_cut_28 : decode method_3_code 28 = .ok (.iconst 2, 1) := by decide +kernel
theorem d_cut_29 : decode method_3_code 29 = .ok (.if_icmp .ne 38, 3) := by decide +kernel
theorem d_cut_32 : decode method_3_code 32 = .ok (.new 25, 3) := by decide +kernel
theorem d_cut_35 : decode method_3_code 35 = .ok (.dup, 1) := by decide +kernel
theorem d_cut_36 : decode method_3_code 36 = .ok (.iconst 4, 1) := by decide +kernel
theorem d_cut_37 : decode method_3_code 37 = .ok (.newarray .char, 2) := by decide +kernel
theorem d_cut_39 : decode method_3_code 39 = .ok (.dup, 1) := by decide +kernel
theorem d_cut_40 : decode method_3_code 40 = .ok (.iconst 0, 1) := by decide +kernel
theorem d_cut_41 : decode method_3_code 41 = .ok (.aload_n 0, 1) := by decide +kernel
theorem d_cut_42 : decode method_3_code 42 = .ok (.iconst 0, 1) := by decide +kernel
theorem d_cut_43 : decode method_3_code 43 = .ok (.caload, 1) := by decide +kernel
theorem d_cut_44 : decode method_3_code 44 = .ok (.castore, 1) := by decide +kernel
theorem d_cut_45 : decode method_3_code 45 = .ok (.dup, 1) := by decide +kernel
theorem d_cut_46 : decode method_3_code 46 = .ok (.iconst 1, 1) := by decide +kernel
theorem d_cut_47 : decode method_3_code 47 = .ok (.aload_n 0, 1) := by decide +kernel
theorem d_cut_48 : decode method_3_code 48 = .ok (.iconst 1, 1) := by decide +kernel
theorem d_cut_49 : decode method_3_code 49 = .ok (.caload, 1) := by decide +kernel
theorem d_cut_50 : decode method_3_code 50 = .ok (.castore, 1) := by decide +kernel
theorem d_cut_51 : decode method_3_code 51 = .ok (.dup, 1) := by decide +kernel
theorem d_cut_52 : decode method_3_code 52 = .ok (.iconst 2, 1) := by decide +kernel
theorem d_cut_53 : decode method_3_code 53 = .ok (.aload_n 0, 1) := by decide +kernel
theorem d_cut_54 : decode method_3_code 54 = .ok (.iconst 2, 1) := by decide +kernel
theorem d_cut_55 : decode method_3_code 55 = .ok (.caload, 1) := by decide +kernel
theorem d_cut_56 : decode method_3_code 56 = .ok (.castore, 1) := by decide +kernel
theorem d_cut_57 : decode method_3_code 57 = .ok (.dup, 1) := by decide +kernel
theorem d_cut_58 : decode method_3_code 58 = .ok (.iconst 3, 1) := by decide +kernel
theorem d_cut_59 : decode method_3_code 59 = .ok (.aload_n 0, 1) := by decide +kernel
theorem d_cut_60 : decode method_3_code 60 = .ok (.iconst 3, 1) := by decide +kernel
theorem d_cut_61 : decode method_3_code 61 = .ok (.caload, 1) := by decide +kernel
theorem d_cut_62 : decode method_3_code 62 = .ok (.castore, 1) := by decide +kernel
theorem d_cut_63 : decode method_3_code 63 = .ok (.invokespecial 39, 3) := by decide +kernel
theorem d_cut_66 : decode method_3_code 66 = .ok (.areturn, 1) := by decide +kernel
theorem d_cut_67 : decode method_3_code 67 = .ok (.iload_n 1, 1) := by decide +kernel
theorem d_cut_68 : decode method_3_code 68 = .ok (.iconst 3, 1) := by decide +kernel
theorem d_cut_69 : decode method_3_code 69 = .ok (.if_icmp .ne 44, 3) := by decide +kernel
theorem d_cut_72 : decode method_3_code 72 = .ok (.new 25, 3) := by decide +kernel
theorem d_cut_75 : decode method_3_code 75 = .ok (.dup, 1) := by decide +kernel
theorem d_cut_76 : decode method_3_code 76 = .ok (.iconst 5, 1) := by decide +kernel
theorem d_cut_77 : decode method_3_code 77 = .ok (.newarray .char, 2) := by decide +kernel
theorem d_cut_79 : decode method_3_code 79 = .ok (.dup, 1) := by decide +kernel
theorem d_cut_80 : decode method_3_code 80 = .ok (.iconst 0, 1) := by decide +kernel
theorem d_cut_81 : decode method_3_code 81 = .ok (.aload_n 0, 1) := by decide +kernel
theorem d_cut_82 : decode method_3_code 82 = .ok (.iconst 0, 1) := by decide +kernel
theorem d_cut_83 : decode method_3_code 83 = .ok (.caload, 1) := by decide +kernel
theorem d_cut_84 : decode method_3_code 84 = .ok (.castore, 1) := by decide +kernel
theorem d_cut_85 : decode method_3_code 85 = .ok (.dup, 1) := by decide +kernel
theorem d_cut_86 : decode method_3_code 86 = .ok (.iconst 1, 1) := by decide +kernel
theorem d_cut_87 : decode method_3_code 87 = .ok (.aload_n 0, 1) := by decide +kernel
theorem d_cut_88 : decode method_3_code 88 = .ok (.iconst 1, 1) := by decide +kernel
theorem d_cut_89 : decode method_3_code 89 = .ok (.caload, 1) := by decide +kernel
theorem d_cut_90 : decode method_3_code 90 = .ok (.castore, 1) := by decide +kernel
theorem d_cut_91 : decode method_3_code 91 = .ok (.dup, 1) := by decide +kernel
theorem d_cut_92 : decode method_3_code 92 = .ok (.iconst 2, 1) := by decide +kernel
theorem d_cut_93 : decode method_3_code 93 = .ok (.aload_n 0, 1) := by decide +kernel
theorem d_cut_94 : decode method_3_code 94 = .ok (.iconst 2, 1) := by decide +kernel
theorem d_cut_95 : decode method_3_code 95 = .ok (.caload, 1) := by decide +kernel
theorem d_cut_96 : decode method_3_code 96 = .ok (.castore, 1) := by decide +kernel
theorem d_cut_97 : decode method_3_code 97 = .ok (.dup, 1) := by decide +kernel
theorem d_cut_98 : decode method_3_code 98 = .ok (.iconst 3, 1) := by decide +kernel
theorem d_cut_99 : decode method_3_code 99 = .ok (.aload_n 0, 1) := by decide +kernel
theorem d_cut_100 : decode method_3_code 100 = .ok (.iconst 3, 1) := by decide +kernel
theorem d_cut_101 : decode method_3_code 101 = .ok (.caload, 1) := by decide +kernel
theorem d_cut_102 : decode method_3_code 102 = .ok (.castore, 1) := by decide +kernel
theorem d_cut_103 : decode method_3_code 103 = .ok (.dup, 1) := by decide +kernel
theorem d_cut_104 : decode method_3_code 104 = .ok (.iconst 4, 1) := by decide +kernel
theorem d_cut_105 : decode method_3_code 105 = .ok (.aload_n 0, 1) := by decide +kernel
theorem d_cut_106 : decode method_3_code 106 = .ok (.iconst 4, 1) := by decide +kernel
theorem d_cut_107 : decode method_3_code 107 = .ok (.caload, 1) := by decide +kernel
theorem d_cut_108 : decode method_3_code 108 = .ok (.castore, 1) := by decide +kernel
theorem d_cut_109 : decode method_3_code 109 = .ok (.invokespecial 39, 3) := by decide +kernel
theorem d_cut_112 : decode method_3_code 112 = .ok (.areturn, 1) := by decide +kernel
theorem d_cut_113 : decode method_3_code 113 = .ok (.iload_n 1, 1) := by decide +kernel
theorem d_cut_114 : decode method_3_code 114 = .ok (.iconst 4, 1) := by decide +kernel
theorem d_cut_115 : decode method_3_code 115 = .ok (.if_icmp .ne 51, 3) := by decide +kernel
theorem d_cut_118 : decode method_3_code 118 = .ok (.new 25, 3) := by decide +kernel
theorem d_cut_121 : decode method_3_code 121 = .ok (.dup, 1) := by decide +kernel
theorem d_cut_122 : decode method_3_code 122 = .ok (.bipush 6, 2) := by decide +kernel
theorem d_cut_124 : decode method_3_code 124 = .ok (.newarray .char, 2) := by decide +kernel
theorem d_cut_126 : decode method_3_code 126 = .ok (.dup, 1) := by decide +kernel
theorem d_cut_127 : decode method_3_code 127 = .ok (.iconst 0, 1) := by decide +kernel
theorem d_cut_128 : decode method_3_code 128 = .ok (.aload_n 0, 1) := by decide +kernel
theorem d_cut_129 : decode method_3_code 129 = .ok (.iconst 0, 1) := by decide +kernel
theorem d_cut_130 : decode method_3_code 130 = .ok (.caload, 1) := by decide +kernel
theorem d_cut_131 : decode method_3_code 131 = .ok (.castore, 1) := by decide +kernel
theorem d_cut_132 : decode method_3_code 132 = .ok (.dup, 1) := by decide +kernel
theorem d_cut_133 : decode method_3_code 133 = .ok (.iconst 1, 1) := by decide +kernel
theorem d_cut_134 : decode method_3_code 134 = .ok (.aload_n 0, 1) := by decide +kernel
theorem d_cut_135 : decode method_3_code 135 = .ok (.iconst 1, 1) := by decide +kernel
theorem d_cut_136 : decode method_3_code 136 = .ok (.caload, 1) := by decide +kernel
theorem d_cut_137 : decode method_3_code 137 = .ok (.castore, 1) := by decide +kernel
theorem d_cut_138 : decode method_3_code 138 = .ok (.dup, 1) := by decide +kernel
theorem d_cut_139 : decode method_3_code 139 = .ok (.iconst 2, 1) := by decide +kernel
theorem d_cut_140 : decode method_3_code 140 = .ok (.aload_n 0, 1) := by decide +kernel
theorem d_cut_141 : decode method_3_code 141 = .ok (.iconst 2, 1) := by decide +kernel
theorem d_cut_142 : decode method_3_code 142 = .ok (.caload, 1) := by decide +kernel
theorem d_cut_143 : decode method_3_code 143 = .ok (.castore, 1) := by decide +kernel
theorem d_cut_144 : decode method_3_code 144 = .ok (.dup, 1) := by decide +kernel
theorem d_cut_145 : decode method_3_code 145 = .ok (.iconst 3, 1) := by decide +kernel
theorem d_cut_146 : decode method_3_code 146 = .ok (.aload_n 0, 1) := by decide +kernel
theorem d_cut_147 : decode method_3_code 147 = .ok (.iconst 3, 1) := by decide +kernel
theorem d_cut_148 : decode method_3_code 148 = .ok (.caload, 1) := by decide +kernel
theorem d_cut_149 : decode method_3_code 149 = .ok (.castore, 1) := by decide +kernel
theorem d_cut_150 : decode method_3_code 150 = .ok (.dup, 1) := by decide +kernel
theorem d_cut_151 : decode method_3_code 151 = .ok (.iconst 4, 1) := by decide +kernel
theorem d_cut_152 : decode method_3_code 152 = .ok (.aload_n 0, 1) := by decide +kernel
theorem d_cut_153 : decode method_3_code 153 = .ok (.iconst 4, 1) := by decide +kernel
theorem d_cut_154 : decode method_3_code 154 = .ok (.caload, 1) := by decide +kernel
theorem d_cut_155 : decode method_3_code 155 = .ok (.castore, 1) := by decide +kernel
theorem d_cut_156 : decode method_3_code 156 = .ok (.dup, 1) := by decide +kernel
theorem d_cut_157 : decode method_3_code 157 = .ok (.iconst 5, 1) := by decide +kernel
theorem d_cut_158 : decode method_3_code 158 = .ok (.aload_n 0, 1) := by decide +kernel
theorem d_cut_159 : decode method_3_code 159 = .ok (.iconst 5, 1) := by decide +kernel
theorem d_cut_160 : decode method_3_code 160 = .ok (.caload, 1) := by decide +kernel
theorem d_cut_161 : decode method_3_code 161 = .ok (.castore, 1) := by decide +kernel
theorem d_cut_162 : decode method_3_code 162 = .ok (.invokespecial 39, 3) := by decide +kernel
theorem d_cut_165 : decode method_3_code 165 = .ok (.areturn, 1) := by decide +kernel
theorem d_cut_166 : decode method_3_code 166 = .ok (.iload_n 1, 1) := by decide +kernel
theorem d_cut_167 : decode method_3_code 167 = .ok (.iconst 5, 1) := by decide +kernel
theorem d_cut_168 : decode method_3_code 168 = .ok (.if_icmp .ne 59, 3) := by decide +kernel
theorem d_cut_171 : decode method_3_code 171 = .ok (.new 25, 3) := by decide +kernel
theorem d_cut_174 : decode method_3_code 174 = .ok (.dup, 1) := by decide +kernel
theorem d_cut_175 : decode method_3_code 175 = .ok (.bipush 7, 2) := by decide +kernel
theorem d_cut_177 : decode method_3_code 177 = .ok (.newarray .char, 2) := by decide +kernel
theorem d_cut_179 : decode method_3_code 179 = .ok (.dup, 1) := by decide +kernel
theorem d_cut_180 : decode method_3_code 180 = .ok (.iconst 0, 1) := by decide +kernel
theorem d_cut_181 : decode method_3_code 181 = .ok (.aload_n 0, 1) := by decide +kernel
theorem d_cut_182 : decode method_3_code 182 = .ok (.iconst 0, 1) := by decide +kernel
theorem d_cut_183 : decode method_3_code 183 = .ok (.caload, 1) := by decide +kernel
theorem d_cut_184 : decode method_3_code 184 = .ok (.castore, 1) := by decide +kernel
theorem d_cut_185 : decode method_3_code 185 = .ok (.dup, 1) := by decide +kernel
theorem d_cut_186 : decode method_3_code 186 = .ok (.iconst 1, 1) := by decide +kernel
theorem d_cut_187 : decode method_3_code 187 = .ok (.aload_n 0, 1) := by decide +kernel
theorem d_cut_188 : decode method_3_code 188 = .ok (.iconst 1, 1) := by decide +kernel
theorem d_cut_189 : decode method_3_code 189 = .ok (.caload, 1) := by decide +kernel
theorem d_cut_190 : decode method_3_code 190 = .ok (.castore, 1) := by decide +kernel
theorem d_cut_191 : decode method_3_code 191 = .ok (.dup, 1) := by decide +kernel
theorem d_cut_192 : decode method_3_code 192 = .ok (.iconst 2, 1) := by decide +kernel
theorem d_cut_193 : decode method_3_code 193 = .ok (.aload_n 0, 1) := by decide +kernel
theorem d_cut_194 : decode method_3_code 194 = .ok (.iconst 2, 1) := by decide +kernel
theorem d_cut_195 : decode method_3_code 195 = .ok (.caload, 1) := by decide +kernel
theorem d_cut_196 : decode method_3_code 196 = .ok (.castore, 1) := by decide +kernel
theorem d_cut_197 : decode method_3_code 197 = .ok (.dup, 1) := by decide +kernel
theorem d_cut_198 : decode method_3_code 198 = .ok (.iconst 3, 1) := by decide +kernel
theorem d_cut_199 : decode method_3_code 199 = .ok (.aload_n 0, 1) := by decide +kernel
theorem d_cut_200 : decode method_3_code 200 = .ok (.iconst 3, 1) := by decide +kernel
theorem d_cut_201 : decode method_3_code 201 = .ok (.caload, 1) := by decide +kernel
theorem d_cut_202 : decode method_3_code 202 = .ok (.castore, 1) := by decide +kernel
theorem d_cut_203 : decode method_3_code 203 = .ok (.dup, 1) := by decide +kernel
theorem d_cut_204 : decode method_3_code 204 = .ok (.iconst 4, 1) := by decide +kernel
theorem d_cut_205 : decode method_3_code 205 = .ok (.aload_n 0, 1) := by decide +kernel
theorem d_cut_206 : decode method_3_code 206 = .ok (.iconst 4, 1) := by decide +kernel
theorem d_cut_207 : decode method_3_code 207 = .ok (.caload, 1) := by decide +kernel
theorem d_cut_208 : decode method_3_code 208 = .ok (.castore, 1) := by decide +kernel
theorem d_cut_209 : decode method_3_code 209 = .ok (.dup, 1) := by decide +kernel
theorem d_cut_210 : decode method_3_code 210 = .ok (.iconst 5, 1) := by decide +kernel
theorem d_cut_211 : decode method_3_code 211 = .ok (.aload_n 0, 1) := by decide +kernel
theorem d_cut_212 : decode method_3_code 212 = .ok (.iconst 5, 1) := by decide +kernel
theorem d_cut_213 : decode method_3_code 213 = .ok (.caload, 1) := by decide +kernel
theorem d_cut_214 : decode method_3_code 214 = .ok (.castore, 1) := by decide +kernel
theorem d_cut_215 : decode method_3_code 215 = .ok (.dup, 1) := by decide +kernel
theorem d_cut_216 : decode method_3_code 216 = .ok (.bipush 6, 2) := by decide +kernel
theorem d_cut_218 : decode method_3_code 218 = .ok (.aload_n 0, 1) := by decide +kernel
theorem d_cut_219 : decode method_3_code 219 = .ok (.bipush 6, 2) := by decide +kernel
theorem d_cut_221 : decode method_3_code 221 = .ok (.caload, 1) := by decide +kernel
theorem d_cut_222 : decode method_3_code 222 = .ok (.castore, 1) := by decide +kernel
theorem d_cut_223 : decode method_3_code 223 = .ok (.invokespecial 39, 3) := by decide +kernel
theorem d_cut_226 : decode method_3_code 226 = .ok (.areturn, 1) := by decide +kernel
theorem d_cut_227 : decode method_3_code 227 = .ok (.iload_n 1, 1) := by decide +kernel
theorem d_cut_228 : decode method_3_code 228 = .ok (.bipush 6, 2) := by decide +kernel
theorem d_cut_230 : decode method_3_code 230 = .ok (.if_icmp .ne 67, 3) := by decide +kernel
theorem d_cut_233 : decode method_3_code 233 = .ok (.new 25, 3) := by decide +kernel
theorem d_cut_236 : decode method_3_code 236 = .ok (.dup, 1) := by decide +kernel
theorem d_cut_237 : decode method_3_code 237 = .ok (.bipush 8, 2) := by decide +kernel
theorem d_cut_239 : decode method_3_code 239 = .ok (.newarray .char, 2) := by decide +kernel
theorem d_cut_241 : decode method_3_code 241 = .ok (.dup, 1) := by decide +kernel
theorem d_cut_242 : decode method_3_code 242 = .ok (.iconst 0, 1) := by decide +kernel
theorem d_cut_243 : decode method_3_code 243 = .ok (.aload_n 0, 1) := by decide +kernel
theorem d_cut_244 : decode method_3_code 244 = .ok (.iconst 0, 1) := by decide +kernel
theorem d_cut_245 : decode method_3_code 245 = .ok (.caload, 1) := by decide +kernel
theorem d_cut_246 : decode method_3_code 246 = .ok (.castore, 1) := by decide +kernel
theorem d_cut_247 : decode method_3_code 247 = .ok (.dup, 1) := by decide +kernel
theorem d_cut_248 : decode method_3_code 248 = .ok (.iconst 1, 1) := by decide +kernel
theorem d_cut_249 : decode method_3_code 249 = .ok (.aload_n 0, 1) := by decide +kernel
theorem d_cut_250 : decode method_3_code 250 = .ok (.iconst 1, 1) := by decide +kernel
theorem d_cut_251 : decode method_3_code 251 = .ok (.caload, 1) := by decide +kernel
theorem d_cut_252 : decode method_3_code 252 = .ok (.castore, 1) := by decide +kernel
theorem d_cut_253 : decode method_3_code 253 = .ok (.dup, 1) := by decide +kernel
theorem d_cut_254 : decode method_3_code 254 = .ok (.iconst 2, 1) := by decide +kernel
theorem d_cut_255 : decode method_3_code 255 = .ok (.aload_n 0, 1) := by decide +kernel
theorem d_cut_256 : decode method_3_code 256 = .ok (.iconst 2, 1) := by decide +kernel
theorem d_cut_257 : decode method_3_code 257 = .ok (.caload, 1) := by decide +kernel
theorem d_cut_258 : decode method_3_code 258 = .ok (.castore, 1) := by decide +kernel
theorem d_cut_259 : decode method_3_code 259 = .ok (.dup, 1) := by decide +kernel
theorem d_cut_260 : decode method_3_code 260 = .ok (.iconst 3, 1) := by decide +kernel
theorem d_cut_261 : decode method_3_code 261 = .ok (.aload_n 0, 1) := by decide +kernel
theorem d_cut_262 : decode method_3_code 262 = .ok (.iconst 3, 1) := by decide +kernel
theorem d_cut_263 : decode method_3_code 263 = .ok (.caload, 1) := by decide +kernel
theorem d_cut_264 : decode method_3_code 264 = .ok (.castore, 1) := by decide +kernel
theorem d_cut_265 : decode method_3_code 265 = .ok (.dup, 1) := by decide +kernel
theorem d_cut_266 : decode method_3_code 266 = .ok (.iconst 4, 1) := by decide +kernel
theorem d_cut_267 : decode method_3_code 267 = .ok (.aload_n 0, 1) := by decide +kernel
theorem d_cut_268 : decode method_3_code 268 = .ok (.iconst 4, 1) := by decide +kernel
theorem d_cut_269 : decode method_3_code 269 = .ok (.caload, 1) := by decide +kernel
theorem d_cut_270 : decode method_3_code 270 = .ok (.castore, 1) := by decide +kernel
theorem d_cut_271 : decode method_3_code 271 = .ok (.dup, 1) := by decide +kernel
theorem d_cut_272 : decode method_3_code 272 = .ok (.iconst 5, 1) := by decide +kernel
theorem d_cut_273 : decode method_3_code 273 = .ok (.aload_n 0, 1) := by decide +kernel
theorem d_cut_274 : decode method_3_code 274 = .ok (.iconst 5, 1) := by decide +kernel
theorem d_cut_275 : decode method_3_code 275 = .ok (.caload, 1) := by decide +kernel
theorem d_cut_276 : decode method_3_code 276 = .ok (.castore, 1) := by decide +kernel
theorem d_cut_277 : decode method_3_code 277 = .ok (.dup, 1) := by decide +kernel
theorem d_cut_278 : decode method_3_code 278 = .ok (.bipush 6, 2) := by decide +kernel
theorem d_cut_280 : decode method_3_code 280 = .ok (.aload_n 0, 1) := by decide +kernel
theorem d_cut_281 : decode method_3_code 281 = .ok (.bipush 6, 2) := by decide +kernel
theorem d_cut_283 : decode method_3_code 283 = .ok (.caload, 1) := by decide +kernel
theorem d_cut_284 : decode method_3_code 284 = .ok (.castore, 1) := by decide +kernel
theorem d_cut_285 : decode method_3_code 285 = .ok (.dup, 1) := by decide +kernel
theorem d_cut_286 : decode method_3_code 286 = .ok (.bipush 7, 2) := by decide +kernel
theorem d_cut_288 : decode method_3_code 288 = .ok (.aload_n 0, 1) := by decide +kernel
theorem d_cut_289 : decode method_3_code 289 = .ok (.bipush 7, 2) := by decide +kernel
theorem d_cut_291 : decode method_3_code 291 = .ok (.caload, 1) := by decide +kernel
theorem d_cut_292 : decode method_3_code 292 = .ok (.castore, 1) := by decide +kernel
theorem d_cut_293 : decode method_3_code 293 = .ok (.invokespecial 39, 3) := by decide +kernel
theorem d_cut_296 : decode method_3_code 296 = .ok (.areturn, 1) := by decide +kernel
theorem d_cut_297 : decode method_3_code 297 = .ok (.new 25, 3) := by decide +kernel
theorem d_cut_300 : decode method_3_code 300 = .ok (.dup, 1) := by decide +kernel
theorem d_cut_301 : decode method_3_code 301 = .ok (.bipush 9, 2) := by decide +kernel
theorem d_cut_303 : decode method_3_code 303 = .ok (.newarray .char, 2) := by decide +kernel
theorem d_cut_305 : decode method_3_code 305 = .ok (.dup, 1) := by decide +kernel
theorem d_cut_306 : decode method_3_code 306 = .ok (.iconst 0, 1) := by decide +kernel
theorem d_cut_307 : decode method_3_code 307 = .ok (.aload_n 0, 1) := by decide +kernel
theorem d_cut_308 : decode method_3_code 308 = .ok (.iconst 0, 1) := by decide +kernel
theorem d_cut_309 : decode method_3_code 309 = .ok (.caload, 1) := by decide +kernel
theorem d_cut_310 : decode method_3_code 310 = .ok (.castore, 1) := by decide +kernel
theorem d_cut_311 : decode method_3_code 311 = .ok (.dup, 1) := by decide +kernel
theorem d_cut_312 : decode method_3_code 312 = .ok (.iconst 1, 1) := by decide +kernel
theorem d_cut_313 : decode method_3_code 313 = .ok (.aload_n 0, 1) := by decide +kernel
theorem d_cut_314 : decode method_3_code 314 = .ok (.iconst 1, 1) := by decide +kernel
theorem d_cut_315 : decode method_3_code 315 = .ok (.caload, 1) := by decide +kernel
theorem d_cut_316 : decode method_3_code 316 = .ok (.castore, 1) := by decide +kernel
theorem d_cut_317 : decode method_3_code 317 = .ok (.dup, 1) := by decide +kernel
theorem d_cut_318 : decode method_3_code 318 = .ok (.iconst 2, 1) := by decide +kernel
theorem d_cut_319 : decode method_3_code 319 = .ok (.aload_n 0, 1) := by decide +kernel
theorem d_cut_320 : decode method_3_code 320 = .ok (.iconst 2, 1) := by decide +kernel
theorem d_cut_321 : decode method_3_code 321 = .ok (.caload, 1) := by decide +kernel
theorem d_cut_322 : decode method_3_code 322 = .ok (.castore, 1) := by decide +kernel
theorem d_cut_323 : decode method_3_code 323 = .ok (.dup, 1) := by decide +kernel
theorem d_cut_324 : decode method_3_code 324 = .ok (.iconst 3, 1) := by decide +kernel
theorem d_cut_325 : decode method_3_code 325 = .ok (.aload_n 0, 1) := by decide +kernel
theorem d_cut_326 : decode method_3_code 326 = .ok (.iconst 3, 1) := by decide +kernel
theorem d_cut_327 : decode method_3_code 327 = .ok (.caload, 1) := by decide +kernel
theorem d_cut_328 : decode method_3_code 328 = .ok (.castore, 1) := by decide +kernel
theorem d_cut_329 : decode method_3_code 329 = .ok (.dup, 1) := by decide +kernel
theorem d_cut_330 : decode method_3_code 330 = .ok (.iconst 4, 1) := by decide +kernel
theorem d_cut_331 : decode method_3_code 331 = .ok (.aload_n 0, 1) := by decide +kernel
theorem d_cut_332 : decode method_3_code 332 = .ok (.iconst 4, 1) := by decide +kernel
theorem d_cut_333 : decode method_3_code 333 = .ok (.caload, 1) := by decide +kernel
theorem d_cut_334 : decode method_3_code 334 = .ok (.castore, 1) := by decide +kernel
theorem d_cut_335 : decode method_3_code 335 = .ok (.dup, 1) := by decide +kernel
theorem d_cut_336 : decode method_3_code 336 = .ok (.iconst 5, 1) := by decide +kernel
theorem d_cut_337 : decode method_3_code 337 = .ok (.aload_n 0, 1) := by decide +kernel
theorem d_cut_338 : decode method_3_code 338 = .ok (.iconst 5, 1) := by decide +kernel
theorem d_cut_339 : decode method_3_code 339 = .ok (.caload, 1) := by decide +kernel
theorem d_cut_340 : decode method_3_code 340 = .ok (.castore, 1) := by decide +kernel
theorem d_cut_341 : decode method_3_code 341 = .ok (.dup, 1) := by decide +kernel
theorem d_cut_342 : decode method_3_code 342 = .ok (.bipush 6, 2) := by decide +kernel
theorem d_cut_344 : decode method_3_code 344 = .ok (.aload_n 0, 1) := by decide +kernel
theorem d_cut_345 : decode method_3_code 345 = .ok (.bipush 6, 2) := by decide +kernel
theorem d_cut_347 : decode method_3_code 347 = .ok (.caload, 1) := by decide +kernel
theorem d_cut_348 : decode method_3_code 348 = .ok (.castore, 1) := by decide +kernel
theorem d_cut_349 : decode method_3_code 349 = .ok (.dup, 1) := by decide +kernel
theorem d_cut_350 : decode method_3_code 350 = .ok (.bipush 7, 2) := by decide +kernel
theorem d_cut_352 : decode method_3_code 352 = .ok (.aload_n 0, 1) := by decide +kernel
theorem d_cut_353 : decode method_3_code 353 = .ok (.bipush 7, 2) := by decide +kernel
theorem d_cut_355 : decode method_3_code 355 = .ok (.caload, 1) := by decide +kernel
theorem d_cut_356 : decode method_3_code 356 = .ok (.castore, 1) := by decide +kernel
theorem d_cut_357 : decode method_3_code 357 = .ok (.dup, 1) := by decide +kernel
theorem d_cut_358 : decode method_3_code 358 = .ok (.bipush 8, 2) := by decide +kernel
theorem d_cut_360 : decode method_3_code 360 = .ok (.aload_n 0, 1) := by decide +kernel
theorem d_cut_361 : decode method_3_code 361 = .ok (.bipush 8, 2) := by decide +kernel
theorem d_cut_363 : decode method_3_code 363 = .ok (.caload, 1) := by decide +kernel
theorem d_cut_364 : decode method_3_code 364 = .ok (.castore, 1) := by decide +kernel
theorem d_cut_365 : decode method_3_code 365 = .ok (.invokespecial 39, 3) := by decide +kernel
theorem d_cut_368 : decode method_3_code 368 = .ok (.areturn, 1) := by decide +kernel
theorem d_vals_0 : decode prog_14_method_1_code 0 = .ok (.getstatic 10, 3) := by decide +kernel
theorem d_vals_3 : decode prog_14_method_1_code 3 = .ok (.invokevirtual 14, 3) := by decide +kernel
theorem d_vals_6 : decode prog_14_method_1_code 6 = .ok (.checkcast 15, 3) := by decide +kernel
theorem d_vals_9 : decode prog_14_method_1_code 9 = .ok (.areturn, 1) := by decide +kernel
theorem d_named_0 : decode prog_14_method_6_code 0 = .ok (.invokestatic 40, 3) := by decide +kernel
theorem d_named_3 : decode prog_14_method_6_code 3 = .ok (.astore_n 1, 1) := by decide +kernel
theorem d_named_4 : decode prog_14_method_6_code 4 = .ok (.aload_n 1, 1) := by decide +kernel
theorem d_named_5 : decode prog_14_method_6_code 5 = .ok (.arraylength, 1) := by decide +kernel
theorem d_named_6 : decode prog_14_method_6_code 6 = .ok (.istore_n 2, 1) := by decide +kernel
theorem d_named_7 : decode prog_14_method_6_code 7 = .ok (.iconst 0, 1) := by decide +kernel
theorem d_named_8 : decode prog_14_method_6_code 8 = .ok (.istore_n 3, 1) := by decide +kernel
theorem d_named_9 : decode prog_14_method_6_code 9 = .ok (.iload_n 3, 1) := by decide +kernel
theorem d_named_10 : decode prog_14_method_6_code 10 = .ok (.iload_n 2, 1) := by decide +kernel
theorem d_named_11 : decode prog_14_method_6_code 11 = .ok (.if_icmp .ge 29, 3) := by decide +kernel
theorem d_named_14 : decode prog_14_method_6_code 14 = .ok (.aload_n 1, 1) := by decide +kernel
theorem d_named_15 : decode prog_14_method_6_code 15 = .ok (.iload_n 3, 1) := by decide +kernel
theorem d_named_16 : decode prog_14_method_6_code 16 = .ok (.aaload, 1) := by decide +kernel
theorem d_named_17 : decode prog_14_method_6_code 17 = .ok (.astore 4, 2) := by decide +kernel
theorem d_named_19 : decode prog_14_method_6_code 19 = .ok (.aload 4, 2) := by decide +kernel
theorem d_named_21 : decode prog_14_method_6_code 21 = .ok (.getfield 29, 3) := by decide +kernel
theorem d_named_24 : decode prog_14_method_6_code 24 = .ok (.aload_n 0, 1) := by decide +kernel
theorem d_named_25 : decode prog_14_method_6_code 25 = .ok (.invokevirtual 44, 3) := by decide +kernel
theorem d_named_28 : decode prog_14_method_6_code 28 = .ok (.ifCond .eq 6, 3) := by decide +kernel
theorem d_named_31 : decode prog_14_method_6_code 31 = .ok (.aload 4, 2) := by decide +kernel
theorem d_named_33 : decode prog_14_method_6_code 33 = .ok (.areturn, 1) := by decide +kernel
theorem d_named_34 : decode prog_14_method_6_code 34 = .ok (.iinc 3 1, 3) := by decide +kernel
theorem d_named_37 : decode prog_14_method_6_code 37 = .ok (.goto (-28), 3) := by decide +kernel
theorem d_named_40 : decode prog_14_method_6_code 40 = .ok (.aconst_null, 1) := by decide +kernel
theorem d_named_41 : decode prog_14_method_6_code 41 = .ok (.areturn, 1) := by decide +kernel
/-- a char's low byte, signed: what a Latin-1 String holds of it -/
def b8 (c : Int32) : Int32 := c.toInt8.toInt32
theorem b8_b8 (c : Int32) : (b8 c).toInt8.toInt32 = b8 c := by simp [b8]
theorem set_next {f : Int32 → Value} {cs : List Int32} {i k : Nat} {z : Value} (hi : i < cs.length) : ((cs.take i).map f ++ List.replicate (k + 1) z).set i (f cs[i]) = (cs.take (i + 1)).map f ++ List.replicate k z := by
  have hl : ((cs.take i).map f).length = i := by simp; omega
  have e : (cs.take (i + 1)).map f = (cs.take i).map f ++ [f cs[i]] := by
    rw [List.take_add_one, List.getElem?_eq_getElem hi, List.map_append]; rfl
  rw [List.set_append_right _ _ (by omega), hl, Nat.sub_self, List.replicate_succ, List.set_cons_zero, e, List.append_assoc]; rfl
theorem hcs0 : ∀ d ∈ ([] : List Int32), ¬ d < 0 ∧ ¬ 255 < d := fun d hd => nomatch hd
theorem hcsC {c : Int32} {cs : List Int32} (p : ¬ c < 0 ∧ ¬ 255 < c) (q : ∀ d ∈ cs, ¬ d < 0 ∧ ¬ 255 < d) : ∀ d ∈ c :: cs, ¬ d < 0 ∧ ¬ 255 < d := fun d hd => (List.mem_cons.mp hd).elim (fun e => e ▸ p) (q d)
theorem sub1 {a : Addr} {sf : List Addr} (h : a ∈ sf) : ∀ z ∈ [a], z ∈ sf := fun z hz => by cases List.mem_singleton.mp hz; exact h
theorem sub0 {sf : List Addr} : ∀ z ∈ ([] : List Addr), z ∈ sf := fun z hz => nomatch hz
theorem nar_c {c : Int32} (h0 : ¬ c < 0) (h1 : ¬ 255 < c) : nar .char c = c := by
  have q : c &&& 255 = c := by
    rw [← Int32.toInt_inj, c_mask c 255 8 (by omega) (by decide)]
    rw [Int32.lt_iff_toInt_lt] at h0 h1
    have e1 : (0 : Int32).toInt = 0 := by decide
    have e2 : (255 : Int32).toInt = 255 := by decide
    omega
  show c.toUInt32.toUInt16.toUInt32.toInt32 = c
  have := i2c_mask c
  rw [q] at this; exact this
theorem chr_rng (x : Int32) : ¬ (x &&& 255).toUInt32.toUInt16.toUInt32.toInt32 < 0 ∧ ¬ 255 < (x &&& 255).toUInt32.toUInt16.toUInt32.toInt32 := by
  rw [i2c_mask]
  have h := c_mask x 255 8 (by omega) (by decide)
  rw [Int32.lt_iff_toInt_lt, Int32.lt_iff_toInt_lt, h]
  have e1 : (0 : Int32).toInt = 0 := by decide
  have e2 : (255 : Int32).toInt = 255 := by decide
  rw [e1, e2]
  omega
theorem b8_inj {a c : Int32} (ha : ¬ a < 0 ∧ ¬ 255 < a) (hc : ¬ c < 0 ∧ ¬ 255 < c) (q : b8 a = b8 c) : a = c := by
  have h1 := c_i2b a
  have h2 := c_i2b c
  have e := congrArg Int32.toInt q
  unfold b8 at e
  obtain ⟨a1, a2⟩ := ha
  obtain ⟨c1, c2⟩ := hc
  rw [Int32.lt_iff_toInt_lt] at a1 a2 c1 c2
  have e1 : (0 : Int32).toInt = 0 := by decide
  have e2 : (255 : Int32).toInt = 255 := by decide
  rw [← Int32.toInt_inj]
  omega
def b_cmp5 : Bx := (({ frames := 0, cells := 0, slots := 0, locals := 0 } : Room), (⟨"java/lang/StringUTF16", "compress", "([CI[BII)I"⟩ : MethodName), jdk_52_method_21_code, 7, (Option.some Jvm.ClassFile.FieldType.int))
theorem ef_cmp5 (a d : Addr) (cs : List Int32) (mI : MethodId) : entryFrame mI #[.ref a, .int (0 : Int32), .ref d, .int (0 : Int32), .int (Int32.ofNat cs.length)] 7 = mkF mI 0 #[.val (.ref a), .val (.int (0 : Int32)), .val (.ref d), .val (.int (0 : Int32)), .val (.int (Int32.ofNat cs.length)), .unset, .unset] [] := by first | (simp [entryFrame, mkF, argsToLocals, Value.category]; done) | rfl
theorem pn_java_lang_StringUTF16 : plainName "java/lang/StringUTF16" = true := by first | (simp [plainName, overriddenIn]; done) | decide +kernel
theorem pd_cmp5 : parseMethodDescriptor "([CI[BII)I" = some ⟨[(.array .char), .int, (.array .byte), .int, .int], some .int⟩ := by decide +kernel
set_option maxRecDepth 65536 in
set_option maxHeartbeats 4000000 in
theorem ct_cmp5 {a0 : Array Value} {Z : State} (hw : ∀ d ∈ tables_1, d.before a0 Z = true) (l : Launch) (nar kn : Bool) (hnr : nar = false) (h0 : Heap) (a d : Addr) (cs : List Int32) (Fa : Ar Z h0 a .char (cs.map Value.int)) (Fd : Ar Z h0 d .byte (List.replicate cs.length (.int 0))) (hne : a ≠ d) (hcs : ∀ c ∈ cs, ¬ c < 0 ∧ ¬ 255 < c) :
    Ct l Z EL1 (⟨"java/lang/StringUTF16", "compress", "([CI[BII)I"⟩ : MethodName) jdk_52_method_21_code 7 (Option.some Jvm.ClassFile.FieldType.int) ({ frames := 0, cells := 0, slots := 0, locals := 0 } : Room) #[.ref a, .int (0 : Int32), .ref d, .int (0 : Int32), .int (Int32.ofNat cs.length)] h0 [d] nar kn (fun v h sn => v = some (.int (Int32.ofNat cs.length)) ∧ sn = [] ∧ Ar Z h d .byte (cs.map fun c => Value.int (b8 c))) := by
  refine Ct.intro (plainFor_of_name pn_java_lang_StringUTF16) (ew hw) (ef_cmp5 a d cs) ?_
  intro x hl hn0 hkn hsf hh H0
  have hnar : x.nar = false := hn0.trans hnr
  have H0 : Hr x b_cmp5 Z EL1 0 0 h0 [d] 0 #[.val (.ref a), .val (.int (0 : Int32)), .val (.ref d), .val (.int (0 : Int32)), .val (.int (Int32.ofNat cs.length)), .unset, .unset] [] := H0
  have hlen : cs.length < 2147483648 := by simpa using Fa.len
  have H1 : Hr x b_cmp5 Z EL1 0 0 h0 [d] 1 #[.val (.ref a), .val (.int (0 : Int32)), .val (.ref d), .val (.int (0 : Int32)), .val (.int (Int32.ofNat cs.length)), .unset, .unset] [.int (0 : Int32)] := H0.iconst d_cmp5_0
  have H2 : Hr x b_cmp5 Z EL1 0 0 h0 [d] 3 #[.val (.ref a), .val (.int (0 : Int32)), .val (.ref d), .val (.int (0 : Int32)), .val (.int (Int32.ofNat cs.length)), .val (.int (0 : Int32)), .unset] [] := H1.istore d_cmp5_1
  have loop : ∀ (k i : Nat) (h : Heap) (o : Slot), i + k = cs.length → (o = .unset ∨ ∃ w, o = .val w ∧ w.category = 1) → Ar Z h a .char (cs.map Value.int) → Ar Z h d .byte ((cs.take i).map (fun c => Value.int (b8 c)) ++ List.replicate k (.int 0)) → Hr x b_cmp5 Z EL1 0 0 h [d] 3 #[.val (.ref a), .val (.int (Int32.ofNat i)), .val (.ref d), .val (.int (Int32.ofNat i)), .val (.int (Int32.ofNat cs.length)), .val (.int (Int32.ofNat i)), o] [] → Ends x b_cmp5 Z EL1 (fun v h sn => v = some (.int (Int32.ofNat cs.length)) ∧ sn = [] ∧ Ar Z h d .byte (cs.map fun c => Value.int (b8 c))) := by
    intro k
    induction k with
    | zero =>
      intro i h o hi ho Fa Fd H
      obtain rfl : i = cs.length := by omega
      have H3 : Hr x b_cmp5 Z EL1 0 0 h [d] 5 #[.val (.ref a), .val (.int (Int32.ofNat cs.length)), .val (.ref d), .val (.int (Int32.ofNat cs.length)), .val (.int (Int32.ofNat cs.length)), .val (.int (Int32.ofNat cs.length)), o] [.int (Int32.ofNat cs.length)] := H.iload d_cmp5_3
      have H4 : Hr x b_cmp5 Z EL1 0 0 h [d] 7 #[.val (.ref a), .val (.int (Int32.ofNat cs.length)), .val (.ref d), .val (.int (Int32.ofNat cs.length)), .val (.int (Int32.ofNat cs.length)), .val (.int (Int32.ofNat cs.length)), o] [.int (Int32.ofNat cs.length), .int (Int32.ofNat cs.length)] := H3.iload d_cmp5_5
      have H5 : Hr x b_cmp5 Z EL1 0 0 h [d] 44 #[.val (.ref a), .val (.int (Int32.ofNat cs.length)), .val (.ref d), .val (.int (Int32.ofNat cs.length)), .val (.int (Int32.ofNat cs.length)), .val (.int (Int32.ofNat cs.length)), o] [] := H4.icmpT d_cmp5_7 (XT.ii_ge_t (by simp))
      have H6 : Hr x b_cmp5 Z EL1 0 0 h [d] 46 #[.val (.ref a), .val (.int (Int32.ofNat cs.length)), .val (.ref d), .val (.int (Int32.ofNat cs.length)), .val (.int (Int32.ofNat cs.length)), .val (.int (Int32.ofNat cs.length)), o] [.int (Int32.ofNat cs.length)] := H5.iload d_cmp5_44
      exact H6.finI d_cmp5_46 ⟨rfl, rfl, by simpa using Fd⟩ sub0
    | succ k ih =>
      intro i h o hi ho Fa Fd H
      have hi1 : i < cs.length := by omega
      have hlt : Int32.ofNat i < Int32.ofNat cs.length := by rw [Int32.lt_iff_toInt_lt, toInt_of rfl (by omega), toInt_of rfl (by omega)]; omega
      obtain ⟨hc0, hc1⟩ := hcs cs[i] (List.getElem_mem hi1)
      have H3 : Hr x b_cmp5 Z EL1 0 0 h [d] 5 #[.val (.ref a), .val (.int (Int32.ofNat i)), .val (.ref d), .val (.int (Int32.ofNat i)), .val (.int (Int32.ofNat cs.length)), .val (.int (Int32.ofNat i)), o] [.int (Int32.ofNat i)] := H.iload d_cmp5_3
      have H4 : Hr x b_cmp5 Z EL1 0 0 h [d] 7 #[.val (.ref a), .val (.int (Int32.ofNat i)), .val (.ref d), .val (.int (Int32.ofNat i)), .val (.int (Int32.ofNat cs.length)), .val (.int (Int32.ofNat i)), o] [.int (Int32.ofNat cs.length), .int (Int32.ofNat i)] := H3.iload d_cmp5_5
      have H5 : Hr x b_cmp5 Z EL1 0 0 h [d] 10 #[.val (.ref a), .val (.int (Int32.ofNat i)), .val (.ref d), .val (.int (Int32.ofNat i)), .val (.int (Int32.ofNat cs.length)), .val (.int (Int32.ofNat i)), o] [] := H4.icmpF d_cmp5_7 (XT.ii_ge_f hlt)
      have H6 : Hr x b_cmp5 Z EL1 0 0 h [d] 11 #[.val (.ref a), .val (.int (Int32.ofNat i)), .val (.ref d), .val (.int (Int32.ofNat i)), .val (.int (Int32.ofNat cs.length)), .val (.int (Int32.ofNat i)), o] [.ref a] := H5.aloadN d_cmp5_10
      have H7 : Hr x b_cmp5 Z EL1 0 0 h [d] 12 #[.val (.ref a), .val (.int (Int32.ofNat i)), .val (.ref d), .val (.int (Int32.ofNat i)), .val (.int (Int32.ofNat cs.length)), .val (.int (Int32.ofNat i)), o] [.int (Int32.ofNat i), .ref a] := H6.iloadN d_cmp5_11
      have H8 : Hr x b_cmp5 Z EL1 0 0 h [d] 13 #[.val (.ref a), .val (.int (Int32.ofNat i)), .val (.ref d), .val (.int (Int32.ofNat i)), .val (.int (Int32.ofNat cs.length)), .val (.int (Int32.ofNat i)), o] [.int (cs[i])] := H7.caload Fa d_cmp5_12 (i := i) rfl (by simp [hi1])
      have H9 : Hr x b_cmp5 Z EL1 0 0 h [d] 15 #[.val (.ref a), .val (.int (Int32.ofNat i)), .val (.ref d), .val (.int (Int32.ofNat i)), .val (.int (Int32.ofNat cs.length)), .val (.int (Int32.ofNat i)), .val (.int (cs[i]))] [] := H8.istore d_cmp5_13 (hl := XS.store1 (o := o) rfl ho rfl)
      have H10 : Hr x b_cmp5 Z EL1 0 0 h [d] 17 #[.val (.ref a), .val (.int (Int32.ofNat i)), .val (.ref d), .val (.int (Int32.ofNat i)), .val (.int (Int32.ofNat cs.length)), .val (.int (Int32.ofNat i)), .val (.int (cs[i]))] [.int (cs[i])] := H9.iload d_cmp5_15
      have H11 : Hr x b_cmp5 Z EL1 0 0 h [d] 20 #[.val (.ref a), .val (.int (Int32.ofNat i)), .val (.ref d), .val (.int (Int32.ofNat i)), .val (.int (Int32.ofNat cs.length)), .val (.int (Int32.ofNat i)), .val (.int (cs[i]))] [.int (255 : Int32), .int (cs[i])] := H10.sipush d_cmp5_17
      have H12 : Hr x b_cmp5 Z EL1 0 0 h [d] 26 #[.val (.ref a), .val (.int (Int32.ofNat i)), .val (.ref d), .val (.int (Int32.ofNat i)), .val (.int (Int32.ofNat cs.length)), .val (.int (Int32.ofNat i)), .val (.int (cs[i]))] [] := H11.icmpT d_cmp5_20 (XT.ii_le_t hc1)
      have H13 : Hr x b_cmp5 Z EL1 0 0 h [d] 27 #[.val (.ref a), .val (.int (Int32.ofNat i)), .val (.ref d), .val (.int (Int32.ofNat i)), .val (.int (Int32.ofNat cs.length)), .val (.int (Int32.ofNat i)), .val (.int (cs[i]))] [.ref d] := H12.aloadN d_cmp5_26
      have H14 : Hr x b_cmp5 Z EL1 0 0 h [d] 28 #[.val (.ref a), .val (.int (Int32.ofNat i)), .val (.ref d), .val (.int (Int32.ofNat i)), .val (.int (Int32.ofNat cs.length)), .val (.int (Int32.ofNat i)), .val (.int (cs[i]))] [.int (Int32.ofNat i), .ref d] := H13.iloadN d_cmp5_27
      have H15 : Hr x b_cmp5 Z EL1 0 0 h [d] 30 #[.val (.ref a), .val (.int (Int32.ofNat i)), .val (.ref d), .val (.int (Int32.ofNat i)), .val (.int (Int32.ofNat cs.length)), .val (.int (Int32.ofNat i)), .val (.int (cs[i]))] [.int (cs[i]), .int (Int32.ofNat i), .ref d] := H14.iload d_cmp5_28
      have H16 : Hr x b_cmp5 Z EL1 0 0 h [d] 31 #[.val (.ref a), .val (.int (Int32.ofNat i)), .val (.ref d), .val (.int (Int32.ofNat i)), .val (.int (Int32.ofNat cs.length)), .val (.int (Int32.ofNat i)), .val (.int (cs[i]))] [.int (b8 cs[i]), .int (Int32.ofNat i), .ref d] := H15.i2b d_cmp5_30
      obtain ⟨h', Wd, H17⟩ := H16.bastore (List.mem_singleton.mpr rfl) Fd d_cmp5_31 (i := i) rfl (by simp; omega) (hw := (b8_b8 _))
      have H17 : Hr x b_cmp5 Z EL1 0 0 h' [d] 32 #[.val (.ref a), .val (.int (Int32.ofNat i)), .val (.ref d), .val (.int (Int32.ofNat i)), .val (.int (Int32.ofNat cs.length)), .val (.int (Int32.ofNat i)), .val (.int (cs[i]))] [] := H17
      have H18 : Hr x b_cmp5 Z EL1 0 0 h' [d] 35 #[.val (.ref a), .val (.int (Int32.ofNat (i + 1))), .val (.ref d), .val (.int (Int32.ofNat i)), .val (.int (Int32.ofNat cs.length)), .val (.int (Int32.ofNat i)), .val (.int (cs[i]))] [] := H17.iinc d_cmp5_32 (v := (Int32.ofNat (i + 1))) (hv := (inc_ofNat i).symm)
      have H19 : Hr x b_cmp5 Z EL1 0 0 h' [d] 38 #[.val (.ref a), .val (.int (Int32.ofNat (i + 1))), .val (.ref d), .val (.int (Int32.ofNat (i + 1))), .val (.int (Int32.ofNat cs.length)), .val (.int (Int32.ofNat i)), .val (.int (cs[i]))] [] := H18.iinc d_cmp5_35 (v := (Int32.ofNat (i + 1))) (hv := (inc_ofNat i).symm)
      have H20 : Hr x b_cmp5 Z EL1 0 0 h' [d] 41 #[.val (.ref a), .val (.int (Int32.ofNat (i + 1))), .val (.ref d), .val (.int (Int32.ofNat (i + 1))), .val (.int (Int32.ofNat cs.length)), .val (.int (Int32.ofNat (i + 1))), .val (.int (cs[i]))] [] := H19.iinc d_cmp5_38 (v := (Int32.ofNat (i + 1))) (hv := (inc_ofNat i).symm)
      have H21 : Hr x b_cmp5 Z EL1 0 0 h' [d] 3 #[.val (.ref a), .val (.int (Int32.ofNat (i + 1))), .val (.ref d), .val (.int (Int32.ofNat (i + 1))), .val (.int (Int32.ofNat cs.length)), .val (.int (Int32.ofNat (i + 1))), .val (.int (cs[i]))] [] := H20.goto d_cmp5_41
      refine ih (i + 1) _ _ (by omega) (Or.inr ⟨_, rfl, rfl⟩) (Fa.other Wd hne) ?_ H21
      have := Fd.set Wd; rw [set_next (f := fun c => Value.int (b8 c)) hi1] at this; exact this
  exact loop cs.length 0 h0 .unset (by omega) (Or.inl rfl) Fa (by simpa using Fd) H2
def b_cmp3 (n : Nat) : Bx := (({ frames := 1, cells := 1, slots := n, locals := 18 } : Room), (⟨"java/lang/StringUTF16", "compress", "([CII)[B"⟩ : MethodName), jdk_52_method_16_code, 6, (Option.some (Jvm.ClassFile.FieldType.array Jvm.ClassFile.FieldType.byte)))
theorem ef_cmp3 (a : Addr) (cs : List Int32) (mI : MethodId) : entryFrame mI #[.ref a, .int (0 : Int32), .int (Int32.ofNat cs.length)] 6 = mkF mI 0 #[.val (.ref a), .val (.int (0 : Int32)), .val (.int (Int32.ofNat cs.length)), .unset, .unset, .unset] [] := by first | (simp [entryFrame, mkF, argsToLocals, Value.category]; done) | rfl
theorem pd_cmp3 : parseMethodDescriptor "([CII)[B" = some ⟨[(.array .char), .int, .int], some (.array .byte)⟩ := by decide +kernel
set_option maxRecDepth 65536 in
set_option maxHeartbeats 4000000 in
theorem ct_cmp3 {a0 : Array Value} {Z : State} (hw : ∀ d ∈ tables_1, d.before a0 Z = true) (l : Launch) (nar kn : Bool) (hnr : nar = false) (h0 : Heap) (a : Addr) (cs : List Int32) (Fa : Ar Z h0 a .char (cs.map Value.int)) (hcap : cs.length ≤ 4000) (hcs : ∀ c ∈ cs, ¬ c < 0 ∧ ¬ 255 < c) :
    Ct l Z EL1 (⟨"java/lang/StringUTF16", "compress", "([CII)[B"⟩ : MethodName) jdk_52_method_16_code 6 (Option.some (Jvm.ClassFile.FieldType.array Jvm.ClassFile.FieldType.byte)) ({ frames := 1, cells := 1, slots := cs.length, locals := 18 } : Room) #[.ref a, .int (0 : Int32), .int (Int32.ofNat cs.length)] h0 [] nar kn (fun v h sn => ∃ t, v = some (.ref t) ∧ h0.size ≤ t ∧ sn = [t] ∧ Ar Z h t .byte (cs.map fun c => Value.int (b8 c))) := by
  refine Ct.intro (plainFor_of_name pn_java_lang_StringUTF16) (ew hw) (ef_cmp3 a cs) ?_
  intro x hl hn0 hkn hsf hh H0
  have hnar : x.nar = false := hn0.trans hnr
  have H0 : Hr x (b_cmp3 cs.length) Z EL1 0 0 h0 [] 0 #[.val (.ref a), .val (.int (0 : Int32)), .val (.int (Int32.ofNat cs.length)), .unset, .unset, .unset] [] := H0
  have hclamp : (Int32.ofNat cs.length).toNatClampNeg = cs.length := clamp_of rfl (by omega)
  have hnn : ¬ Int32.ofNat cs.length < 0 := by rw [Int32.lt_iff_toInt_lt, toInt_of rfl (by omega)]; simp
  have H1 : Hr x (b_cmp3 cs.length) Z EL1 0 0 h0 [] 1 #[.val (.ref a), .val (.int (0 : Int32)), .val (.int (Int32.ofNat cs.length)), .unset, .unset, .unset] [.int (Int32.ofNat cs.length)] := H0.iloadN d_cmp3_0
  obtain ⟨h1, E1, Fd, H2⟩ := H1.newarray (aty := .byte) (cap := cs.length) (w24 hw) d_cmp3_1 hnn (Nat.le_of_eq hclamp) (by omega) (by first | (simp [b_cmp3, Bx.R]; done) | (simp [b_cmp3, Bx.R]; omega)) (by first | (simp [b_cmp3, Bx.R]; done) | (simp [b_cmp3, Bx.R]; omega))
  obtain ⟨d, g_d⟩ : ∃ z, z = h0.size := ⟨_, rfl⟩
  rw [← g_d] at Fd H2
  have Fd : Ar Z h1 d .byte (List.replicate cs.length (.int 0)) := (by have := Fd; rw [hclamp] at this; exact this)
  have H2 : Hr x (b_cmp3 cs.length) Z EL1 1 (0 + cs.length) h1 [d] 3 #[.val (.ref a), .val (.int (0 : Int32)), .val (.int (Int32.ofNat cs.length)), .unset, .unset, .unset] [.ref d] := H2
  have H3 : Hr x (b_cmp3 cs.length) Z EL1 1 (0 + cs.length) h1 [d] 4 #[.val (.ref a), .val (.int (0 : Int32)), .val (.int (Int32.ofNat cs.length)), .val (.ref d), .unset, .unset] [] := H2.astoreN d_cmp3_3
  have H4 : Hr x (b_cmp3 cs.length) Z EL1 1 (0 + cs.length) h1 [d] 5 #[.val (.ref a), .val (.int (0 : Int32)), .val (.int (Int32.ofNat cs.length)), .val (.ref d), .unset, .unset] [.ref a] := H3.aloadN d_cmp3_4
  have H5 : Hr x (b_cmp3 cs.length) Z EL1 1 (0 + cs.length) h1 [d] 6 #[.val (.ref a), .val (.int (0 : Int32)), .val (.int (Int32.ofNat cs.length)), .val (.ref d), .unset, .unset] [.int (0 : Int32), .ref a] := H4.iloadN d_cmp3_5
  have H6 : Hr x (b_cmp3 cs.length) Z EL1 1 (0 + cs.length) h1 [d] 7 #[.val (.ref a), .val (.int (0 : Int32)), .val (.int (Int32.ofNat cs.length)), .val (.ref d), .unset, .unset] [.ref d, .int (0 : Int32), .ref a] := H5.aloadN d_cmp3_6
  have H7 : Hr x (b_cmp3 cs.length) Z EL1 1 (0 + cs.length) h1 [d] 8 #[.val (.ref a), .val (.int (0 : Int32)), .val (.int (Int32.ofNat cs.length)), .val (.ref d), .unset, .unset] [.int (0 : Int32), .ref d, .int (0 : Int32), .ref a] := H6.iconst d_cmp3_7
  have H8 : Hr x (b_cmp3 cs.length) Z EL1 1 (0 + cs.length) h1 [d] 9 #[.val (.ref a), .val (.int (0 : Int32)), .val (.int (Int32.ofNat cs.length)), .val (.ref d), .unset, .unset] [.int (Int32.ofNat cs.length), .int (0 : Int32), .ref d, .int (0 : Int32), .ref a] := H7.iloadN d_cmp3_8
  obtain ⟨_, h2, _, ⟨rfl, rfl, Fd2⟩, K2, H9⟩ := H8.callS (argsL := [.ref a, .int (0 : Int32), .ref d, .int (0 : Int32), .int (Int32.ofNat cs.length)]) (rest := []) (Wr := 0) (ct_cmp5 hw x.l x.nar x.kn hnar h1 a d cs (Fa.ext E1) Fd (neN (by have := Fa.lt; omega)) hcs) (sub1 (List.mem_cons_self ..)) (w25 hw) (w26 hw) (w22 hw) (w27 hw) d_cmp3_9 pd_cmp5 rfl (hf := by first | (simp [b_cmp3, Bx.R]; done) | (simp [b_cmp3, Bx.R]; omega)) (hl := by first | (simp [b_cmp3, Bx.R]; done) | (simp [b_cmp3, Bx.R]; omega)) (hc := by first | (simp [b_cmp3, Bx.R]; done) | (simp [b_cmp3, Bx.R]; omega)) (hs := by first | (simp [b_cmp3, Bx.R]; done) | (simp [b_cmp3, Bx.R]; omega))
  have H9 : Hr x (b_cmp3 cs.length) Z EL1 1 (0 + cs.length + 0) h2 [d] 12 #[.val (.ref a), .val (.int (0 : Int32)), .val (.int (Int32.ofNat cs.length)), .val (.ref d), .unset, .unset] [.int (Int32.ofNat cs.length)] := H9
  have H10 : Hr x (b_cmp3 cs.length) Z EL1 1 (0 + cs.length + 0) h2 [d] 14 #[.val (.ref a), .val (.int (0 : Int32)), .val (.int (Int32.ofNat cs.length)), .val (.ref d), .val (.int (Int32.ofNat cs.length)), .unset] [] := H9.istore d_cmp3_12
  have H11 : Hr x (b_cmp3 cs.length) Z EL1 1 (0 + cs.length + 0) h2 [d] 16 #[.val (.ref a), .val (.int (0 : Int32)), .val (.int (Int32.ofNat cs.length)), .val (.ref d), .val (.int (Int32.ofNat cs.length)), .unset] [.int (Int32.ofNat cs.length)] := H10.iload d_cmp3_14
  have H12 : Hr x (b_cmp3 cs.length) Z EL1 1 (0 + cs.length + 0) h2 [d] 17 #[.val (.ref a), .val (.int (0 : Int32)), .val (.int (Int32.ofNat cs.length)), .val (.ref d), .val (.int (Int32.ofNat cs.length)), .unset] [.int (Int32.ofNat cs.length), .int (Int32.ofNat cs.length)] := H11.iloadN d_cmp3_16
  have H13 : Hr x (b_cmp3 cs.length) Z EL1 1 (0 + cs.length + 0) h2 [d] 57 #[.val (.ref a), .val (.int (0 : Int32)), .val (.int (Int32.ofNat cs.length)), .val (.ref d), .val (.int (Int32.ofNat cs.length)), .unset] [] := H12.icmpT d_cmp3_17 (XT.ii_eq_t rfl)
  have H14 : Hr x (b_cmp3 cs.length) Z EL1 1 (0 + cs.length + 0) h2 [d] 58 #[.val (.ref a), .val (.int (0 : Int32)), .val (.int (Int32.ofNat cs.length)), .val (.ref d), .val (.int (Int32.ofNat cs.length)), .unset] [.ref d] := H13.aloadN d_cmp3_57
  exact H14.finA d_cmp3_58 ⟨d, rfl, by omega, rfl, Fd2⟩ (sub1 (List.mem_cons_self ..)) (hK := by first | (simp [b_cmp3, Bx.R]; done) | (simp [b_cmp3, Bx.R]; omega)) (hS := by first | (simp [b_cmp3, Bx.R]; done) | (simp [b_cmp3, Bx.R]; omega))
def b_cfal : Bx := (({ frames := 0, cells := 0, slots := 0, locals := 0 } : Room), (⟨"java/lang/StringUTF16", "coderFromArrayLen", "([BI)B"⟩ : MethodName), jdk_52_method_15_code, 2, (Option.some Jvm.ClassFile.FieldType.byte))
theorem ef_cfal (d : Addr) (n : Nat) (mI : MethodId) : entryFrame mI #[.ref d, .int (Int32.ofNat n)] 2 = mkF mI 0 #[.val (.ref d), .val (.int (Int32.ofNat n))] [] := by first | (simp [entryFrame, mkF, argsToLocals, Value.category]; done) | rfl
theorem pd_cfal : parseMethodDescriptor "([BI)B" = some ⟨[(.array .byte), .int], some .byte⟩ := by decide +kernel
set_option maxRecDepth 65536 in
set_option maxHeartbeats 4000000 in
theorem ct_cfal {a0 : Array Value} {Z : State} (hw : ∀ d ∈ tables_1, d.before a0 Z = true) (l : Launch) (nar kn : Bool) (hnr : nar = false) (h0 : Heap) (d : Addr) (vs : List Value) (n : Nat) (hn : vs.length = n) (Fd : Ar Z h0 d .byte vs) :
    Ct l Z EL1 (⟨"java/lang/StringUTF16", "coderFromArrayLen", "([BI)B"⟩ : MethodName) jdk_52_method_15_code 2 (Option.some Jvm.ClassFile.FieldType.byte) ({ frames := 0, cells := 0, slots := 0, locals := 0 } : Room) #[.ref d, .int (Int32.ofNat n)] h0 [] nar kn (fun v h sn => v = some (.int 0) ∧ sn = [] ∧ h = h0) := by
  refine Ct.intro (plainFor_of_name pn_java_lang_StringUTF16) (ew hw) (ef_cfal d n) ?_
  intro x hl hn0 hkn hsf hh H0
  have hnar : x.nar = false := hn0.trans hnr
  have H0 : Hr x b_cfal Z EL1 0 0 h0 [] 0 #[.val (.ref d), .val (.int (Int32.ofNat n))] [] := H0
  have H1 : Hr x b_cfal Z EL1 0 0 h0 [] 1 #[.val (.ref d), .val (.int (Int32.ofNat n))] [.int (Int32.ofNat n)] := H0.iloadN d_cfal_0
  have H2 : Hr x b_cfal Z EL1 0 0 h0 [] 2 #[.val (.ref d), .val (.int (Int32.ofNat n))] [.ref d, .int (Int32.ofNat n)] := H1.aloadN d_cfal_1
  have H3 : Hr x b_cfal Z EL1 0 0 h0 [] 3 #[.val (.ref d), .val (.int (Int32.ofNat n))] [.int (Int32.ofNat n), .int (Int32.ofNat n)] := H2.arraylength Fd d_cfal_2 (hn := (by rw [hn]))
  have H4 : Hr x b_cfal Z EL1 0 0 h0 [] 4 #[.val (.ref d), .val (.int (Int32.ofNat n))] [.int (0 : Int32)] := H3.isub d_cfal_3 (hv := (by simp))
  have H5 : Hr x b_cfal Z EL1 0 0 h0 [] 6 #[.val (.ref d), .val (.int (Int32.ofNat n))] [.int (31 : Int32), .int (0 : Int32)] := H4.bipush d_cfal_4
  have H6 : Hr x b_cfal Z EL1 0 0 h0 [] 7 #[.val (.ref d), .val (.int (Int32.ofNat n))] [.int (0 : Int32)] := H5.iushr d_cfal_6 (hv := (by decide))
  have H7 : Hr x b_cfal Z EL1 0 0 h0 [] 8 #[.val (.ref d), .val (.int (Int32.ofNat n))] [.int (0 : Int32)] := H6.i2b d_cfal_7 (hv := (by decide))
  exact H7.finZ d_cfal_8 (t := .byte) (by first | rfl | decide) ⟨rfl, rfl, rfl⟩ sub0
def b_sini4 (n : Nat) : Bx := (({ frames := 2, cells := 4, slots := 8 + n, locals := 35 } : Room), (⟨"java/lang/String", "<init>", "([CIILjava/lang/Void;)V"⟩ : MethodName), jdk_42_method_149_code, 6, (Option.none : Option Jvm.ClassFile.FieldType))
theorem ef_sini4 (s a : Addr) (cs : List Int32) (mI : MethodId) : entryFrame mI #[.ref s, .ref a, .int (0 : Int32), .int (Int32.ofNat cs.length), .null] 6 = mkF mI 0 #[.val (.ref s), .val (.ref a), .val (.int (0 : Int32)), .val (.int (Int32.ofNat cs.length)), .val (.null), .unset] [] := by first | (simp [entryFrame, mkF, argsToLocals, Value.category]; done) | rfl
theorem pn_java_lang_String : plainName "java/lang/String" = true := by first | (simp [plainName, overriddenIn]; done) | decide +kernel
theorem pd_sini4 : parseMethodDescriptor "([CIILjava/lang/Void;)V" = some ⟨[(.array .char), .int, .int, (.object "java/lang/Void")], none⟩ := by decide +kernel
set_option maxRecDepth 65536 in
set_option maxHeartbeats 4000000 in
theorem ct_sini4 {a0 : Array Value} {Z : State} (hw : ∀ d ∈ tables_1, d.before a0 Z = true) (l : Launch) (nar kn : Bool) (hnr : nar = false) (h0 : Heap) (s a : Addr) (cs : List Int32) (Es : Exa Z h0 s "java/lang/String") (Fc : Fld Z h0 s "java/lang/String" "coder" "B" (.int 0)) (Fv : Fld Z h0 s "java/lang/String" "value" "[B" .null) (Fa : Ar Z h0 a .char (cs.map Value.int)) (hcap : cs.length ≤ 4000) (hcs : ∀ c ∈ cs, ¬ c < 0 ∧ ¬ 255 < c) (cz : Int32) (O : Sta Z Z.heap "java/lang/String" "COMPACT_STRINGS" "Z" (.int cz)) (hcz : ¬ cz = 0) :
    Ct l Z EL1 (⟨"java/lang/String", "<init>", "([CIILjava/lang/Void;)V"⟩ : MethodName) jdk_42_method_149_code 6 (Option.none : Option Jvm.ClassFile.FieldType) ({ frames := 2, cells := 4, slots := 8 + cs.length, locals := 35 } : Room) #[.ref s, .ref a, .int (0 : Int32), .int (Int32.ofNat cs.length), .null] h0 [s] nar kn (fun v h sn => v = none ∧ sn = [] ∧ ∃ t, Str Z h s t (cs.map b8)) := by
  refine Ct.intro (plainFor_of_name pn_java_lang_String) (ew hw) (ef_sini4 s a cs) ?_
  intro x hl hn0 hkn hsf hh H0
  have hnar : x.nar = false := hn0.trans hnr
  have H0 : Hr x (b_sini4 cs.length) Z EL1 0 0 h0 [s] 0 #[.val (.ref s), .val (.ref a), .val (.int (0 : Int32)), .val (.int (Int32.ofNat cs.length)), .val (.null), .unset] [] := H0
  have H1 : Hr x (b_sini4 cs.length) Z EL1 0 0 h0 [s] 1 #[.val (.ref s), .val (.ref a), .val (.int (0 : Int32)), .val (.int (Int32.ofNat cs.length)), .val (.null), .unset] [.ref s] := H0.aloadN d_sini4_0
  have H2 : Hr x (b_sini4 cs.length) Z EL1 0 0 h0 [s] 4 #[.val (.ref s), .val (.ref a), .val (.int (0 : Int32)), .val (.int (Int32.ofNat cs.length)), .val (.null), .unset] [] := H1.initO (Wr := 0) (w16 hw) (w17 hw) (w18 hw) d_sini4_1 (hf := by first | (simp [b_sini4, Bx.R]; done) | (simp [b_sini4, Bx.R]; omega)) (hl := by first | (simp [b_sini4, Bx.R]; done) | (simp [b_sini4, Bx.R]; omega))
  have H3 : Hr x (b_sini4 cs.length) Z EL1 0 0 h0 [s] 5 #[.val (.ref s), .val (.ref a), .val (.int (0 : Int32)), .val (.int (Int32.ofNat cs.length)), .val (.null), .unset] [.int (Int32.ofNat cs.length)] := H2.iloadN d_sini4_4
  by_cases hz : cs.length = 0
  · obtain rfl : cs = [] := List.length_eq_zero_iff.mp hz
    have H4 : Hr x (b_sini4 ([] : List Int32).length) Z EL1 0 0 h0 [s] 8 #[.val (.ref s), .val (.ref a), .val (.int (0 : Int32)), .val (.int (Int32.ofNat ([] : List Int32).length)), .val (.null), .unset] [] := H3.ifF d_sini4_5 (XT.i0_ne_f rfl)
    have H5 : Hr x (b_sini4 ([] : List Int32).length) Z EL1 0 0 h0 [s] 9 #[.val (.ref s), .val (.ref a), .val (.int (0 : Int32)), .val (.int (Int32.ofNat ([] : List Int32).length)), .val (.null), .unset] [.ref s] := H4.aloadN d_sini4_8
    obtain ⟨la, lt, h1, E1, L1, n1, H6⟩ := H5.ldcS (n := 0) (bs := []) (z := 0) (w75 hw) (wStr hw) (ew hw) (by decide) (by decide) (by decide) (by decide) d_sini4_9 (by decide) (by decide) hnar (by first | (simp [b_sini4, Bx.R]; done) | (simp [b_sini4, Bx.R]; omega)) (by first | (simp [b_sini4, Bx.R]; done) | (simp [b_sini4, Bx.R]; omega))
    have H6 : Hr x (b_sini4 ([] : List Int32).length) Z EL1 2 4 h1 [s] 11 #[.val (.ref s), .val (.ref a), .val (.int (0 : Int32)), .val (.int (Int32.ofNat ([] : List Int32).length)), .val (.null), .unset] [.ref la, .ref s] := H6
    have H7 : Hr x (b_sini4 ([] : List Int32).length) Z EL1 2 4 h1 [s] 14 #[.val (.ref s), .val (.ref a), .val (.int (0 : Int32)), .val (.int (Int32.ofNat ([] : List Int32).length)), .val (.null), .unset] [.ref lt, .ref s] := H6.getF (w33 hw) L1.2.2.1 d_sini4_11
    obtain ⟨h2, W2, H8⟩ := H7.putF (List.mem_singleton.mpr rfl) (w33 hw) (Fv.ext E1) (Es.ext E1) (Or.inr ⟨(w34 hw), rfl, rfl⟩) (w7 hw) d_sini4_14 (ty := (.array .byte))
    have H8 : Hr x (b_sini4 ([] : List Int32).length) Z EL1 2 4 h2 [s] 17 #[.val (.ref s), .val (.ref a), .val (.int (0 : Int32)), .val (.int (Int32.ofNat ([] : List Int32).length)), .val (.null), .unset] [] := H8
    have q1 := n1 s (List.mem_singleton.mpr rfl)
    have L2 := L1.other W2 (Ne.symm q1.1) (Ne.symm q1.2)
    have H9 : Hr x (b_sini4 ([] : List Int32).length) Z EL1 2 4 h2 [s] 18 #[.val (.ref s), .val (.ref a), .val (.int (0 : Int32)), .val (.int (Int32.ofNat ([] : List Int32).length)), .val (.null), .unset] [.ref s] := H8.aloadN d_sini4_17
    obtain ⟨lb, lu, h3, E3, L3, n3, H10⟩ := H9.ldcS (n := 0) (bs := []) (z := 0) (w75 hw) (wStr hw) (ew hw) (by decide) (by decide) (by decide) (by decide) d_sini4_18 (by decide) (by decide) hnar (by first | (simp [b_sini4, Bx.R]; done) | (simp [b_sini4, Bx.R]; omega)) (by first | (simp [b_sini4, Bx.R]; done) | (simp [b_sini4, Bx.R]; omega))
    have H10 : Hr x (b_sini4 ([] : List Int32).length) Z EL1 4 8 h3 [s] 20 #[.val (.ref s), .val (.ref a), .val (.int (0 : Int32)), .val (.int (Int32.ofNat ([] : List Int32).length)), .val (.null), .unset] [.ref lb, .ref s] := H10
    have H11 : Hr x (b_sini4 ([] : List Int32).length) Z EL1 4 8 h3 [s] 23 #[.val (.ref s), .val (.ref a), .val (.int (0 : Int32)), .val (.int (Int32.ofNat ([] : List Int32).length)), .val (.null), .unset] [.int (0 : Int32), .ref s] := H10.getF (w31 hw) L3.2.1 d_sini4_20
    have slne := slot_ne (a0 := a0) (C := "java/lang/String") (n := "value") (n' := "coder") (Or.inr (w34 hw)) (Or.inr (w32 hw)) (by decide) (t := .array .byte) (t' := .byte) (by decide) (by decide)
    have Fv2 := Fld.same W2 (Fv.ext E1)
    have Fc2 := Fld.other W2 (Fc.ext E1) (Or.inr (Ne.symm slne))
    obtain ⟨h4, W4, H12⟩ := H11.putF (List.mem_singleton.mpr rfl) (w31 hw) (Fc2.ext E3) ((Es.ext E1).wr W2 |>.ext E3) (Or.inr ⟨(w32 hw), rfl, rfl⟩) (w7 hw) d_sini4_23 (ty := .byte)
    have H12 : Hr x (b_sini4 ([] : List Int32).length) Z EL1 4 8 h4 [s] 26 #[.val (.ref s), .val (.ref a), .val (.int (0 : Int32)), .val (.int (Int32.ofNat ([] : List Int32).length)), .val (.null), .unset] [] := H12
    have q3 := n3 s (List.mem_singleton.mpr rfl)
    have q4 : lt ≠ s := Ne.symm q1.2
    refine H12.finN d_sini4_26 rfl (by first | (simp [b_sini4, Bx.R]; done) | (simp [b_sini4, Bx.R]; omega)) (by first | (simp [b_sini4, Bx.R]; done) | (simp [b_sini4, Bx.R]; omega)) sub0 ⟨rfl, rfl, lt, ((Es.ext E1).wr W2 |>.ext E3).wr W4, Fld.same W4 (Fc2.ext E3), (Fv2.ext E3).other W4 (Or.inr slne), ((L2.2.2.2).ext E3).other W4 q4⟩
  · have hn0 : ¬ Int32.ofNat cs.length = 0 := fun q => hz (by have := congrArg Int32.toInt q; rw [toInt_of rfl (by omega)] at this; simpa using this)
    have H13 : Hr x (b_sini4 cs.length) Z EL1 0 0 h0 [s] 27 #[.val (.ref s), .val (.ref a), .val (.int (0 : Int32)), .val (.int (Int32.ofNat cs.length)), .val (.null), .unset] [] := H3.ifT d_sini4_5 (XT.i0_ne_t hn0)
    have H14 : Hr x (b_sini4 cs.length) Z EL1 0 0 h0 [s] 30 #[.val (.ref s), .val (.ref a), .val (.int (0 : Int32)), .val (.int (Int32.ofNat cs.length)), .val (.null), .unset] [.int cz] := H13.getS (w19 hw) (O.ext H13.old) d_sini4_27
    have H15 : Hr x (b_sini4 cs.length) Z EL1 0 0 h0 [s] 33 #[.val (.ref s), .val (.ref a), .val (.int (0 : Int32)), .val (.int (Int32.ofNat cs.length)), .val (.null), .unset] [] := H14.ifF d_sini4_30 (XT.i0_eq_f hcz)
    have H16 : Hr x (b_sini4 cs.length) Z EL1 0 0 h0 [s] 34 #[.val (.ref s), .val (.ref a), .val (.int (0 : Int32)), .val (.int (Int32.ofNat cs.length)), .val (.null), .unset] [.ref a] := H15.aloadN d_sini4_33
    have H17 : Hr x (b_sini4 cs.length) Z EL1 0 0 h0 [s] 35 #[.val (.ref s), .val (.ref a), .val (.int (0 : Int32)), .val (.int (Int32.ofNat cs.length)), .val (.null), .unset] [.int (0 : Int32), .ref a] := H16.iloadN d_sini4_34
    have H18 : Hr x (b_sini4 cs.length) Z EL1 0 0 h0 [s] 36 #[.val (.ref s), .val (.ref a), .val (.int (0 : Int32)), .val (.int (Int32.ofNat cs.length)), .val (.null), .unset] [.int (Int32.ofNat cs.length), .int (0 : Int32), .ref a] := H17.iloadN d_sini4_35
    obtain ⟨_, h1, _, ⟨t, rfl, ht, rfl, Ft⟩, K1, H19⟩ := H18.callS (argsL := [.ref a, .int (0 : Int32), .int (Int32.ofNat cs.length)]) (rest := []) (Wr := 0) (ct_cmp3 hw x.l x.nar x.kn hnar h0 a cs Fa hcap hcs) sub0 (w20 hw) (w21 hw) (w22 hw) (w23 hw) d_sini4_36 pd_cmp3 rfl (hf := by first | (simp [b_sini4, Bx.R]; done) | (simp [b_sini4, Bx.R]; omega)) (hl := by first | (simp [b_sini4, Bx.R]; done) | (simp [b_sini4, Bx.R]; omega)) (hc := by first | (simp [b_sini4, Bx.R]; done) | (simp [b_sini4, Bx.R]; omega)) (hs := by first | (simp [b_sini4, Bx.R]; done) | (simp [b_sini4, Bx.R]; omega))
    have H19 : Hr x (b_sini4 cs.length) Z EL1 1 (0 + cs.length) h1 [t, s] 39 #[.val (.ref s), .val (.ref a), .val (.int (0 : Int32)), .val (.int (Int32.ofNat cs.length)), .val (.null), .unset] [.ref t] := H19
    have H20 : Hr x (b_sini4 cs.length) Z EL1 1 (0 + cs.length) h1 [t, s] 41 #[.val (.ref s), .val (.ref a), .val (.int (0 : Int32)), .val (.int (Int32.ofNat cs.length)), .val (.null), .val (.ref t)] [] := H19.astore d_sini4_39
    have H21 : Hr x (b_sini4 cs.length) Z EL1 1 (0 + cs.length) h1 [t, s] 42 #[.val (.ref s), .val (.ref a), .val (.int (0 : Int32)), .val (.int (Int32.ofNat cs.length)), .val (.null), .val (.ref t)] [.ref s] := H20.aloadN d_sini4_41
    have H22 : Hr x (b_sini4 cs.length) Z EL1 1 (0 + cs.length) h1 [t, s] 44 #[.val (.ref s), .val (.ref a), .val (.int (0 : Int32)), .val (.int (Int32.ofNat cs.length)), .val (.null), .val (.ref t)] [.ref t, .ref s] := H21.aload d_sini4_42
    have H23 : Hr x (b_sini4 cs.length) Z EL1 1 (0 + cs.length) h1 [t, s] 45 #[.val (.ref s), .val (.ref a), .val (.int (0 : Int32)), .val (.int (Int32.ofNat cs.length)), .val (.null), .val (.ref t)] [.int (Int32.ofNat cs.length), .ref t, .ref s] := H22.iloadN d_sini4_44
    obtain ⟨_, h2, _, ⟨rfl, rfl, e2⟩, K2, H24⟩ := H23.callS (argsL := [.ref t, .int (Int32.ofNat cs.length)]) (rest := [.ref s]) (Wr := 1) (ct_cfal hw x.l x.nar x.kn hnar h1 t (cs.map fun c => Value.int (b8 c)) cs.length (by simp) Ft) sub0 (w28 hw) (w29 hw) (w22 hw) (w30 hw) d_sini4_45 pd_cfal rfl (hf := by first | (simp [b_sini4, Bx.R]; done) | (simp [b_sini4, Bx.R]; omega)) (hl := by first | (simp [b_sini4, Bx.R]; done) | (simp [b_sini4, Bx.R]; omega)) (hc := by first | (simp [b_sini4, Bx.R]; done) | (simp [b_sini4, Bx.R]; omega)) (hs := by first | (simp [b_sini4, Bx.R]; done) | (simp [b_sini4, Bx.R]; omega))
    rw [e2] at H24
    have H24 : Hr x (b_sini4 cs.length) Z EL1 1 (0 + cs.length + 0) h1 [t, s] 48 #[.val (.ref s), .val (.ref a), .val (.int (0 : Int32)), .val (.int (Int32.ofNat cs.length)), .val (.null), .val (.ref t)] [.int (0 : Int32), .ref s] := H24
    have hlt := exa_lt Es
    have hst : @Ne Nat s t := by omega
    have slne := slot_ne (a0 := a0) (C := "java/lang/String") (n := "value") (n' := "coder") (Or.inr (w34 hw)) (Or.inr (w32 hw)) (by decide) (t := .array .byte) (t' := .byte) (by decide) (by decide)
    obtain ⟨h3, W3, H25⟩ := H24.putF (by simp) (w31 hw) (Fc.keep K1 nin0) (Es.keep K1) (Or.inr ⟨(w32 hw), rfl, rfl⟩) (w7 hw) d_sini4_48 (ty := .byte)
    have H25 : Hr x (b_sini4 cs.length) Z EL1 1 (0 + cs.length + 0) h3 [t, s] 51 #[.val (.ref s), .val (.ref a), .val (.int (0 : Int32)), .val (.int (Int32.ofNat cs.length)), .val (.null), .val (.ref t)] [] := H25
    have H26 : Hr x (b_sini4 cs.length) Z EL1 1 (0 + cs.length + 0) h3 [t, s] 52 #[.val (.ref s), .val (.ref a), .val (.int (0 : Int32)), .val (.int (Int32.ofNat cs.length)), .val (.null), .val (.ref t)] [.ref s] := H25.aloadN d_sini4_51
    have H27 : Hr x (b_sini4 cs.length) Z EL1 1 (0 + cs.length + 0) h3 [t, s] 54 #[.val (.ref s), .val (.ref a), .val (.int (0 : Int32)), .val (.int (Int32.ofNat cs.length)), .val (.null), .val (.ref t)] [.ref t, .ref s] := H26.aload d_sini4_52
    obtain ⟨h4, W4, H28⟩ := H27.putF (by simp) (w33 hw) ((Fv.keep K1 nin0).other W3 (Or.inr slne)) ((Es.keep K1).wr W3) (Or.inr ⟨(w34 hw), rfl, rfl⟩) (w7 hw) d_sini4_54 (ty := (.array .byte))
    have H28 : Hr x (b_sini4 cs.length) Z EL1 1 (0 + cs.length + 0) h4 [t, s] 57 #[.val (.ref s), .val (.ref a), .val (.int (0 : Int32)), .val (.int (Int32.ofNat cs.length)), .val (.null), .val (.ref t)] [] := H28
    refine H28.finN d_sini4_57 rfl (by first | (simp [b_sini4, Bx.R]; done) | (simp [b_sini4, Bx.R]; omega)) (by first | (simp [b_sini4, Bx.R]; done) | (simp [b_sini4, Bx.R]; omega)) sub0 ⟨rfl, rfl, t, ((Es.keep K1).wr W3).wr W4, (Fld.same W3 (Fc.keep K1 nin0)).other W4 (Or.inr (Ne.symm slne)), Fld.same W4 ((Fv.keep K1 nin0).other W3 (Or.inr slne)), ?_⟩
    have := (Ft.other W3 (Ne.symm hst)).other W4 (Ne.symm hst); simpa [List.map_map, Function.comp_def] using this
def b_sini1 (n : Nat) : Bx := (({ frames := 3, cells := 4, slots := 8 + n, locals := 52 } : Room), (⟨"java/lang/String", "<init>", "([C)V"⟩ : MethodName), jdk_42_method_3_code, 2, (Option.none : Option Jvm.ClassFile.FieldType))
theorem ef_sini1 (s a : Addr) (mI : MethodId) : entryFrame mI #[.ref s, .ref a] 2 = mkF mI 0 #[.val (.ref s), .val (.ref a)] [] := by first | (simp [entryFrame, mkF, argsToLocals, Value.category]; done) | rfl
theorem pd_sini1 : parseMethodDescriptor "([C)V" = some ⟨[(.array .char)], none⟩ := by decide +kernel
set_option maxRecDepth 65536 in
set_option maxHeartbeats 4000000 in
theorem ct_sini1 {a0 : Array Value} {Z : State} (hw : ∀ d ∈ tables_1, d.before a0 Z = true) (l : Launch) (nar kn : Bool) (hnr : nar = false) (h0 : Heap) (s a : Addr) (cs : List Int32) (Es : Exa Z h0 s "java/lang/String") (Fc : Fld Z h0 s "java/lang/String" "coder" "B" (.int 0)) (Fv : Fld Z h0 s "java/lang/String" "value" "[B" .null) (Fa : Ar Z h0 a .char (cs.map Value.int)) (hcap : cs.length ≤ 4000) (hcs : ∀ c ∈ cs, ¬ c < 0 ∧ ¬ 255 < c) (cz : Int32) (O : Sta Z Z.heap "java/lang/String" "COMPACT_STRINGS" "Z" (.int cz)) (hcz : ¬ cz = 0) :
    Ct l Z EL1 (⟨"java/lang/String", "<init>", "([C)V"⟩ : MethodName) jdk_42_method_3_code 2 (Option.none : Option Jvm.ClassFile.FieldType) ({ frames := 3, cells := 4, slots := 8 + cs.length, locals := 52 } : Room) #[.ref s, .ref a] h0 [s] nar kn (fun v h sn => v = none ∧ sn = [] ∧ ∃ t, Str Z h s t (cs.map b8)) := by
  refine Ct.intro (plainFor_of_name pn_java_lang_String) (ew hw) (ef_sini1 s a) ?_
  intro x hl hn0 hkn hsf hh H0
  have hnar : x.nar = false := hn0.trans hnr
  have H0 : Hr x (b_sini1 cs.length) Z EL1 0 0 h0 [s] 0 #[.val (.ref s), .val (.ref a)] [] := H0
  have H1 : Hr x (b_sini1 cs.length) Z EL1 0 0 h0 [s] 1 #[.val (.ref s), .val (.ref a)] [.ref s] := H0.aloadN d_sini1_0
  have H2 : Hr x (b_sini1 cs.length) Z EL1 0 0 h0 [s] 2 #[.val (.ref s), .val (.ref a)] [.ref a, .ref s] := H1.aloadN d_sini1_1
  have H3 : Hr x (b_sini1 cs.length) Z EL1 0 0 h0 [s] 3 #[.val (.ref s), .val (.ref a)] [.int (0 : Int32), .ref a, .ref s] := H2.iconst d_sini1_2
  have H4 : Hr x (b_sini1 cs.length) Z EL1 0 0 h0 [s] 4 #[.val (.ref s), .val (.ref a)] [.ref a, .int (0 : Int32), .ref a, .ref s] := H3.aloadN d_sini1_3
  have H5 : Hr x (b_sini1 cs.length) Z EL1 0 0 h0 [s] 5 #[.val (.ref s), .val (.ref a)] [.int (Int32.ofNat cs.length), .int (0 : Int32), .ref a, .ref s] := H4.arraylength Fa d_sini1_4 (hn := (by simp))
  have H6 : Hr x (b_sini1 cs.length) Z EL1 0 0 h0 [s] 6 #[.val (.ref s), .val (.ref a)] [.null, .int (Int32.ofNat cs.length), .int (0 : Int32), .ref a, .ref s] := H5.aconstNull d_sini1_5
  obtain ⟨_, h1, _, ⟨rfl, rfl, t, Fs⟩, K1, H7⟩ := H6.callI (argsL := [.ref a, .int (0 : Int32), .int (Int32.ofNat cs.length), .null]) (rest := []) (Wr := 0) (a := s) (ct_sini4 hw x.l x.nar x.kn hnar h0 s a cs Es Fc Fv Fa hcap hcs cz O hcz) (sub1 (List.mem_singleton.mpr rfl)) (w12 hw) (w13 hw) (w8 hw) (w15 hw) d_sini1_6 pd_sini4 rfl (hf := by first | (simp [b_sini1, Bx.R]; done) | (simp [b_sini1, Bx.R]; omega)) (hl := by first | (simp [b_sini1, Bx.R]; done) | (simp [b_sini1, Bx.R]; omega)) (hc := by first | (simp [b_sini1, Bx.R]; done) | (simp [b_sini1, Bx.R]; omega)) (hs := by first | (simp [b_sini1, Bx.R]; done) | (simp [b_sini1, Bx.R]; omega))
  have H7 : Hr x (b_sini1 cs.length) Z EL1 4 (0 + (8 + cs.length)) h1 [s] 9 #[.val (.ref s), .val (.ref a)] [] := H7
  exact H7.finN d_sini1_9 rfl (by first | (simp [b_sini1, Bx.R]; done) | (simp [b_sini1, Bx.R]; omega)) (by first | (simp [b_sini1, Bx.R]; done) | (simp [b_sini1, Bx.R]; omega)) sub0 ⟨rfl, rfl, t, Fs⟩
theorem Ar.uniq {Z : State} {h : Heap} {a : Addr} {ty ty' : FieldType} {vs ws : List Value} (A : Ar Z h a ty vs) (B : Ar Z h a ty' ws) : vs = ws := by
  obtain ⟨c, A1, A2, -⟩ := A
  obtain ⟨c', B1, B2, -⟩ := B
  cases A1.1.symm.trans B1.1
  exact A2.symm.trans B2
theorem int_inj : ∀ {as bs : List Int32}, as.map Value.int = bs.map Value.int → as = bs := fun {as bs} q => by
  have : Function.Injective Value.int := fun a b h => Value.int.inj h
  exact (List.map_inj_right (fun a b h => this h)).mp q
theorem Str.uniq {Z : State} {h : Heap} {a t u : Addr} {bs ds : List Int32} (F : Str Z h a t bs) (G : Str Z h a u ds) : bs = ds := by
  have e : t = u := Classical.byContradiction fun q => (F.2.2.1.ne G.2.2.1 (fun z => q (Value.ref.inj z))) rfl
  subst e
  exact int_inj (F.2.2.2.uniq G.2.2.2)
theorem ofNat_inj {m n : Nat} (hm : m < 2147483648) (hn : n < 2147483648) (q : Int32.ofNat m = Int32.ofNat n) : m = n := by
  have := congrArg Int32.toInt q
  rw [toInt_of rfl (by omega), toInt_of rfl (by omega)] at this
  omega
theorem take_next {as bs : List Int32} {i : Nat} (h1 : i < as.length) (h2 : i < bs.length) (q : as.take i = bs.take i) (e : as[i] = bs[i]) : as.take (i + 1) = bs.take (i + 1) := by
  rw [List.take_add_one, List.take_add_one, q, List.getElem?_eq_getElem h1, List.getElem?_eq_getElem h2, e]
def b_leq : Bx := (({ frames := 0, cells := 0, slots := 0, locals := 0 } : Room), (⟨"java/lang/StringLatin1", "equals", "([B[B)Z"⟩ : MethodName), jdk_43_method_13_code, 3, (Option.some Jvm.ClassFile.FieldType.boolean))
theorem ef_leq (t u : Addr) (mI : MethodId) : entryFrame mI #[.ref t, .ref u] 3 = mkF mI 0 #[.val (.ref t), .val (.ref u), .unset] [] := by first | (simp [entryFrame, mkF, argsToLocals, Value.category]; done) | rfl
theorem pn_java_lang_StringLatin1 : plainName "java/lang/StringLatin1" = true := by first | (simp [plainName, overriddenIn]; done) | decide +kernel
theorem pd_leq : parseMethodDescriptor "([B[B)Z" = some ⟨[(.array .byte), (.array .byte)], some .boolean⟩ := by decide +kernel
set_option maxRecDepth 65536 in
set_option maxHeartbeats 4000000 in
theorem ct_leq {a0 : Array Value} {Z : State} (hw : ∀ d ∈ tables_1, d.before a0 Z = true) (l : Launch) (nar kn : Bool) (hnr : nar = false) (h0 : Heap) (t u : Addr) (bs ds : List Int32) (Ft : Ar Z h0 t .byte (bs.map Value.int)) (Fu : Ar Z h0 u .byte (ds.map Value.int)) :
    Ct l Z EL1 (⟨"java/lang/StringLatin1", "equals", "([B[B)Z"⟩ : MethodName) jdk_43_method_13_code 3 (Option.some Jvm.ClassFile.FieldType.boolean) ({ frames := 0, cells := 0, slots := 0, locals := 0 } : Room) #[.ref t, .ref u] h0 [] nar kn (fun v h sn => v = some (.int (if bs = ds then 1 else 0)) ∧ sn = [] ∧ h = h0) := by
  refine Ct.intro (plainFor_of_name pn_java_lang_StringLatin1) (ew hw) (ef_leq t u) ?_
  intro x hl hn0 hkn hsf hh H0
  have hnar : x.nar = false := hn0.trans hnr
  have H0 : Hr x b_leq Z EL1 0 0 h0 [] 0 #[.val (.ref t), .val (.ref u), .unset] [] := H0
  have hb : bs.length < 2147483648 := by simpa using Ft.len
  have hd : ds.length < 2147483648 := by simpa using Fu.len
  have H1 : Hr x b_leq Z EL1 0 0 h0 [] 1 #[.val (.ref t), .val (.ref u), .unset] [.ref t] := H0.aloadN d_leq_0
  have H2 : Hr x b_leq Z EL1 0 0 h0 [] 2 #[.val (.ref t), .val (.ref u), .unset] [.int (Int32.ofNat bs.length)] := H1.arraylength Ft d_leq_1 (hn := (by simp))
  have H3 : Hr x b_leq Z EL1 0 0 h0 [] 3 #[.val (.ref t), .val (.ref u), .unset] [.ref u, .int (Int32.ofNat bs.length)] := H2.aloadN d_leq_2
  have H4 : Hr x b_leq Z EL1 0 0 h0 [] 4 #[.val (.ref t), .val (.ref u), .unset] [.int (Int32.ofNat ds.length), .int (Int32.ofNat bs.length)] := H3.arraylength Fu d_leq_3 (hn := (by simp))
  by_cases hl2 : bs.length = ds.length
  · have hlI : Int32.ofNat bs.length = Int32.ofNat ds.length := congrArg _ hl2
    have H5 : Hr x b_leq Z EL1 0 0 h0 [] 7 #[.val (.ref t), .val (.ref u), .unset] [] := H4.icmpF d_leq_4 (XT.ii_ne_f hlI)
    have H6 : Hr x b_leq Z EL1 0 0 h0 [] 8 #[.val (.ref t), .val (.ref u), .unset] [.int (0 : Int32)] := H5.iconst d_leq_7
    have H7 : Hr x b_leq Z EL1 0 0 h0 [] 9 #[.val (.ref t), .val (.ref u), .val (.int (0 : Int32))] [] := H6.istoreN d_leq_8
    have loop : ∀ (k i : Nat), i + k = bs.length → bs.take i = ds.take i → Hr x b_leq Z EL1 0 0 h0 [] 9 #[.val (.ref t), .val (.ref u), .val (.int (Int32.ofNat i))] [] → Ends x b_leq Z EL1 (fun v h sn => v = some (.int (if bs = ds then 1 else 0)) ∧ sn = [] ∧ h = h0) := by
      intro k
      induction k with
      | zero =>
        intro i hi hq H
        obtain rfl : i = bs.length := by omega
        have H8 : Hr x b_leq Z EL1 0 0 h0 [] 10 #[.val (.ref t), .val (.ref u), .val (.int (Int32.ofNat bs.length))] [.int (Int32.ofNat bs.length)] := H.iloadN d_leq_9
        have H9 : Hr x b_leq Z EL1 0 0 h0 [] 11 #[.val (.ref t), .val (.ref u), .val (.int (Int32.ofNat bs.length))] [.ref t, .int (Int32.ofNat bs.length)] := H8.aloadN d_leq_10
        have H10 : Hr x b_leq Z EL1 0 0 h0 [] 12 #[.val (.ref t), .val (.ref u), .val (.int (Int32.ofNat bs.length))] [.int (Int32.ofNat bs.length), .int (Int32.ofNat bs.length)] := H9.arraylength Ft d_leq_11 (hn := (by simp))
        have H11 : Hr x b_leq Z EL1 0 0 h0 [] 32 #[.val (.ref t), .val (.ref u), .val (.int (Int32.ofNat bs.length))] [] := H10.icmpT d_leq_12 (XT.ii_ge_t (by simp))
        have H12 : Hr x b_leq Z EL1 0 0 h0 [] 33 #[.val (.ref t), .val (.ref u), .val (.int (Int32.ofNat bs.length))] [.int (1 : Int32)] := H11.iconst d_leq_32
        have e : bs = ds := by rw [List.take_length] at hq; rw [hl2, List.take_length] at hq; exact hq
        exact H12.finZ d_leq_33 (t := .boolean) (by first | rfl | decide) ⟨by rw [if_pos e], rfl, rfl⟩ sub0
      | succ k ih =>
        intro i hi hq H
        have hi1 : i < bs.length := by omega
        have hi2 : i < ds.length := by omega
        have hlt : Int32.ofNat i < Int32.ofNat bs.length := by rw [Int32.lt_iff_toInt_lt, toInt_of rfl (by omega), toInt_of rfl (by omega)]; omega
        have H8 : Hr x b_leq Z EL1 0 0 h0 [] 10 #[.val (.ref t), .val (.ref u), .val (.int (Int32.ofNat i))] [.int (Int32.ofNat i)] := H.iloadN d_leq_9
        have H9 : Hr x b_leq Z EL1 0 0 h0 [] 11 #[.val (.ref t), .val (.ref u), .val (.int (Int32.ofNat i))] [.ref t, .int (Int32.ofNat i)] := H8.aloadN d_leq_10
        have H10 : Hr x b_leq Z EL1 0 0 h0 [] 12 #[.val (.ref t), .val (.ref u), .val (.int (Int32.ofNat i))] [.int (Int32.ofNat bs.length), .int (Int32.ofNat i)] := H9.arraylength Ft d_leq_11 (hn := (by simp))
        have H11 : Hr x b_leq Z EL1 0 0 h0 [] 15 #[.val (.ref t), .val (.ref u), .val (.int (Int32.ofNat i))] [] := H10.icmpF d_leq_12 (XT.ii_ge_f hlt)
        have H12 : Hr x b_leq Z EL1 0 0 h0 [] 16 #[.val (.ref t), .val (.ref u), .val (.int (Int32.ofNat i))] [.ref t] := H11.aloadN d_leq_15
        have H13 : Hr x b_leq Z EL1 0 0 h0 [] 17 #[.val (.ref t), .val (.ref u), .val (.int (Int32.ofNat i))] [.int (Int32.ofNat i), .ref t] := H12.iloadN d_leq_16
        have H14 : Hr x b_leq Z EL1 0 0 h0 [] 18 #[.val (.ref t), .val (.ref u), .val (.int (Int32.ofNat i))] [.int (bs[i])] := H13.baload Ft d_leq_17 (i := i) rfl (by simp [hi1])
        have H15 : Hr x b_leq Z EL1 0 0 h0 [] 19 #[.val (.ref t), .val (.ref u), .val (.int (Int32.ofNat i))] [.ref u, .int (bs[i])] := H14.aloadN d_leq_18
        have H16 : Hr x b_leq Z EL1 0 0 h0 [] 20 #[.val (.ref t), .val (.ref u), .val (.int (Int32.ofNat i))] [.int (Int32.ofNat i), .ref u, .int (bs[i])] := H15.iloadN d_leq_19
        have H17 : Hr x b_leq Z EL1 0 0 h0 [] 21 #[.val (.ref t), .val (.ref u), .val (.int (Int32.ofNat i))] [.int (ds[i]), .int (bs[i])] := H16.baload Fu d_leq_20 (i := i) rfl (by simp [hi2])
        by_cases he : bs[i] = ds[i]
        · have hinc := (inc_ofNat i).symm
          have H18 : Hr x b_leq Z EL1 0 0 h0 [] 26 #[.val (.ref t), .val (.ref u), .val (.int (Int32.ofNat i))] [] := H17.icmpT d_leq_21 (XT.ii_eq_t he)
          have H19 : Hr x b_leq Z EL1 0 0 h0 [] 29 #[.val (.ref t), .val (.ref u), .val (.int (Int32.ofNat (i + 1)))] [] := H18.iinc d_leq_26 (v := (Int32.ofNat (i + 1))) (hv := hinc)
          have H20 : Hr x b_leq Z EL1 0 0 h0 [] 9 #[.val (.ref t), .val (.ref u), .val (.int (Int32.ofNat (i + 1)))] [] := H19.goto d_leq_29
          exact ih (i + 1) (by omega) (take_next hi1 hi2 hq he) H20
        · have hne : ¬ bs = ds := fun q => he (by subst q; rfl)
          have H21 : Hr x b_leq Z EL1 0 0 h0 [] 24 #[.val (.ref t), .val (.ref u), .val (.int (Int32.ofNat i))] [] := H17.icmpF d_leq_21 (XT.ii_eq_f he)
          have H22 : Hr x b_leq Z EL1 0 0 h0 [] 25 #[.val (.ref t), .val (.ref u), .val (.int (Int32.ofNat i))] [.int (0 : Int32)] := H21.iconst d_leq_24
          exact H22.finZ d_leq_25 (t := .boolean) (by first | rfl | decide) ⟨by rw [if_neg hne], rfl, rfl⟩ sub0
    exact loop bs.length 0 (by omega) rfl H7
  · have hne : ¬ bs = ds := fun q => hl2 (congrArg _ q)
    have H201 : Hr x b_leq Z EL1 0 0 h0 [] 34 #[.val (.ref t), .val (.ref u), .unset] [] := H4.icmpT d_leq_4 (XT.ii_ne_t fun q => hl2 (ofNat_inj hb hd q))
    have H202 : Hr x b_leq Z EL1 0 0 h0 [] 35 #[.val (.ref t), .val (.ref u), .unset] [.int (0 : Int32)] := H201.iconst d_leq_34
    exact H202.finZ d_leq_35 (t := .boolean) (by first | rfl | decide) ⟨by rw [if_neg hne], rfl, rfl⟩ sub0
def b_seq : Bx := (({ frames := 1, cells := 0, slots := 0, locals := 14 } : Room), (⟨"java/lang/String", "equals", "(Ljava/lang/Object;)Z"⟩ : MethodName), jdk_42_method_66_code, 3, (Option.some Jvm.ClassFile.FieldType.boolean))
theorem ef_seq (a c : Addr) (mI : MethodId) : entryFrame mI #[.ref a, .ref c] 3 = mkF mI 0 #[.val (.ref a), .val (.ref c), .unset] [] := by first | (simp [entryFrame, mkF, argsToLocals, Value.category]; done) | rfl
theorem pd_seq : parseMethodDescriptor "(Ljava/lang/Object;)Z" = some ⟨[(.object "java/lang/Object")], some .boolean⟩ := by decide +kernel
set_option maxRecDepth 65536 in
set_option maxHeartbeats 4000000 in
theorem ct_seq {a0 : Array Value} {Z : State} (hw : ∀ d ∈ tables_1, d.before a0 Z = true) (l : Launch) (nar kn : Bool) (hnr : nar = false) (h0 : Heap) (a t c u : Addr) (bs ds : List Int32) (Fa : Str Z h0 a t bs) (Fc : Str Z h0 c u ds) (cz : Int32) (O : Sta Z Z.heap "java/lang/String" "COMPACT_STRINGS" "Z" (.int cz)) (hcz : ¬ cz = 0) :
    Ct l Z EL1 (⟨"java/lang/String", "equals", "(Ljava/lang/Object;)Z"⟩ : MethodName) jdk_42_method_66_code 3 (Option.some Jvm.ClassFile.FieldType.boolean) ({ frames := 1, cells := 0, slots := 0, locals := 14 } : Room) #[.ref a, .ref c] h0 [] nar kn (fun v h sn => v = some (.int (if bs = ds then 1 else 0)) ∧ sn = [] ∧ h = h0) := by
  refine Ct.intro (plainFor_of_name pn_java_lang_String) (ew hw) (ef_seq a c) ?_
  intro x hl hn0 hkn hsf hh H0
  have hnar : x.nar = false := hn0.trans hnr
  have H0 : Hr x b_seq Z EL1 0 0 h0 [] 0 #[.val (.ref a), .val (.ref c), .unset] [] := H0
  have H1 : Hr x b_seq Z EL1 0 0 h0 [] 1 #[.val (.ref a), .val (.ref c), .unset] [.ref a] := H0.aloadN d_seq_0
  have H2 : Hr x b_seq Z EL1 0 0 h0 [] 2 #[.val (.ref a), .val (.ref c), .unset] [.ref c, .ref a] := H1.aloadN d_seq_1
  by_cases hac : a = c
  · have e : bs = ds := by subst hac; exact Fa.uniq Fc
    have H3 : Hr x b_seq Z EL1 0 0 h0 [] 5 #[.val (.ref a), .val (.ref c), .unset] [] := H2.acmpF d_seq_2 (by simp [XT.acmp, hac])
    have H4 : Hr x b_seq Z EL1 0 0 h0 [] 6 #[.val (.ref a), .val (.ref c), .unset] [.int (1 : Int32)] := H3.iconst d_seq_5
    exact H4.finZ d_seq_6 (t := .boolean) (by first | rfl | decide) ⟨by rw [if_pos e], rfl, rfl⟩ sub0
  · have hne : XT.acmp .ne (.ref a) (.ref c) = true := by simp [XT.acmp, hac]
    have H5 : Hr x b_seq Z EL1 0 0 h0 [] 7 #[.val (.ref a), .val (.ref c), .unset] [] := H2.acmpT d_seq_2 hne
    have H6 : Hr x b_seq Z EL1 0 0 h0 [] 8 #[.val (.ref a), .val (.ref c), .unset] [.ref c] := H5.aloadN d_seq_7
    have H7 : Hr x b_seq Z EL1 0 0 h0 [] 11 #[.val (.ref a), .val (.ref c), .unset] [.int (1 : Int32)] := H6.inst (w63 hw) (Ins.self Fc.1) d_seq_8
    have H8 : Hr x b_seq Z EL1 0 0 h0 [] 14 #[.val (.ref a), .val (.ref c), .unset] [] := H7.ifF d_seq_11 (XT.i0_eq_f (by decide))
    have H9 : Hr x b_seq Z EL1 0 0 h0 [] 15 #[.val (.ref a), .val (.ref c), .unset] [.ref c] := H8.aloadN d_seq_14
    have H10 : Hr x b_seq Z EL1 0 0 h0 [] 18 #[.val (.ref a), .val (.ref c), .unset] [.ref c] := H9.cast (w63 hw) (Ins.self Fc.1) d_seq_15
    have H11 : Hr x b_seq Z EL1 0 0 h0 [] 19 #[.val (.ref a), .val (.ref c), .val (.ref c)] [] := H10.astoreN d_seq_18
    have H12 : Hr x b_seq Z EL1 0 0 h0 [] 22 #[.val (.ref a), .val (.ref c), .val (.ref c)] [.int cz] := H11.getS (w19 hw) (O.ext H11.old) d_seq_19
    have H13 : Hr x b_seq Z EL1 0 0 h0 [] 25 #[.val (.ref a), .val (.ref c), .val (.ref c)] [] := H12.ifF d_seq_22 (XT.i0_eq_f hcz)
    have H14 : Hr x b_seq Z EL1 0 0 h0 [] 26 #[.val (.ref a), .val (.ref c), .val (.ref c)] [.ref a] := H13.aloadN d_seq_25
    have H15 : Hr x b_seq Z EL1 0 0 h0 [] 29 #[.val (.ref a), .val (.ref c), .val (.ref c)] [.int (0 : Int32)] := H14.getF (w31 hw) Fa.2.1 d_seq_26
    have H16 : Hr x b_seq Z EL1 0 0 h0 [] 30 #[.val (.ref a), .val (.ref c), .val (.ref c)] [.ref c, .int (0 : Int32)] := H15.aloadN d_seq_29
    have H17 : Hr x b_seq Z EL1 0 0 h0 [] 33 #[.val (.ref a), .val (.ref c), .val (.ref c)] [.int (0 : Int32), .int (0 : Int32)] := H16.getF (w31 hw) Fc.2.1 d_seq_30
    have H18 : Hr x b_seq Z EL1 0 0 h0 [] 36 #[.val (.ref a), .val (.ref c), .val (.ref c)] [] := H17.icmpF d_seq_33 (XT.ii_ne_f rfl)
    have H19 : Hr x b_seq Z EL1 0 0 h0 [] 37 #[.val (.ref a), .val (.ref c), .val (.ref c)] [.ref a] := H18.aloadN d_seq_36
    have H20 : Hr x b_seq Z EL1 0 0 h0 [] 40 #[.val (.ref a), .val (.ref c), .val (.ref c)] [.ref t] := H19.getF (w33 hw) Fa.2.2.1 d_seq_37
    have H21 : Hr x b_seq Z EL1 0 0 h0 [] 41 #[.val (.ref a), .val (.ref c), .val (.ref c)] [.ref c, .ref t] := H20.aloadN d_seq_40
    have H22 : Hr x b_seq Z EL1 0 0 h0 [] 44 #[.val (.ref a), .val (.ref c), .val (.ref c)] [.ref u, .ref t] := H21.getF (w33 hw) Fc.2.2.1 d_seq_41
    obtain ⟨_, h1, _, ⟨rfl, rfl, e1⟩, K1, H23⟩ := H22.callS (argsL := [.ref t, .ref u]) (rest := []) (Wr := 0) (ct_leq hw x.l x.nar x.kn hnar h0 t u bs ds Fa.2.2.2 Fc.2.2.2) sub0 (w64 hw) (w65 hw) (w66 hw) (w67 hw) d_seq_44 pd_leq rfl (hf := by first | decide | (simp [b_seq, Bx.R]; done) | (simp [b_seq, Bx.R]; omega)) (hl := by first | decide | (simp [b_seq, Bx.R]; done) | (simp [b_seq, Bx.R]; omega)) (hc := by first | decide | (simp [b_seq, Bx.R]; done) | (simp [b_seq, Bx.R]; omega)) (hs := by first | decide | (simp [b_seq, Bx.R]; done) | (simp [b_seq, Bx.R]; omega))
    rw [e1] at H23
    have H23 : Hr x b_seq Z EL1 0 0 h0 [] 47 #[.val (.ref a), .val (.ref c), .val (.ref c)] [.int (if bs = ds then 1 else 0)] := H23
    by_cases he : bs = ds
    · have e2 : (if bs = ds then (1 : Int32) else 0) = 1 := if_pos he
      have H24 : Hr x b_seq Z EL1 0 0 h0 [] 50 #[.val (.ref a), .val (.ref c), .val (.ref c)] [] := H23.ifF d_seq_47 (XT.i0_eq_f (by rw [e2]; decide))
      have H25 : Hr x b_seq Z EL1 0 0 h0 [] 51 #[.val (.ref a), .val (.ref c), .val (.ref c)] [.int (1 : Int32)] := H24.iconst d_seq_50
      have H26 : Hr x b_seq Z EL1 0 0 h0 [] 55 #[.val (.ref a), .val (.ref c), .val (.ref c)] [.int (1 : Int32)] := H25.goto d_seq_51
      exact H26.finZ d_seq_55 (t := .boolean) (by first | rfl | decide) ⟨by rw [e2], rfl, rfl⟩ sub0
    · have e2 : (if bs = ds then (1 : Int32) else 0) = 0 := if_neg he
      have H27 : Hr x b_seq Z EL1 0 0 h0 [] 54 #[.val (.ref a), .val (.ref c), .val (.ref c)] [] := H23.ifT d_seq_47 (XT.i0_eq_t e2)
      have H28 : Hr x b_seq Z EL1 0 0 h0 [] 55 #[.val (.ref a), .val (.ref c), .val (.ref c)] [.int (0 : Int32)] := H27.iconst d_seq_54
      exact H28.finZ d_seq_55 (t := .boolean) (by first | rfl | decide) ⟨by rw [e2], rfl, rfl⟩ sub0
def b_cenc : Bx := (({ frames := 0, cells := 0, slots := 0, locals := 0 } : Room), (⟨"java/lang/StringLatin1", "canEncode", "(C)Z"⟩ : MethodName), jdk_43_method_3_code, 1, (Option.some Jvm.ClassFile.FieldType.boolean))
theorem ef_cenc (c : Int32) (mI : MethodId) : entryFrame mI #[.int c] 1 = mkF mI 0 #[.val (.int c)] [] := by first | (simp [entryFrame, mkF, argsToLocals, Value.category]; done) | rfl
theorem pd_cenc : parseMethodDescriptor "(C)Z" = some ⟨[.char], some .boolean⟩ := by decide +kernel
set_option maxRecDepth 65536 in
set_option maxHeartbeats 4000000 in
theorem ct_cenc {a0 : Array Value} {Z : State} (hw : ∀ d ∈ tables_1, d.before a0 Z = true) (l : Launch) (nar kn : Bool) (hnr : nar = false) (h0 : Heap) (c : Int32) (rc : ¬ c < 0 ∧ ¬ 255 < c) :
    Ct l Z EL1 (⟨"java/lang/StringLatin1", "canEncode", "(C)Z"⟩ : MethodName) jdk_43_method_3_code 1 (Option.some Jvm.ClassFile.FieldType.boolean) ({ frames := 0, cells := 0, slots := 0, locals := 0 } : Room) #[.int c] h0 [] nar kn (fun v h sn => v = some (.int 1) ∧ sn = [] ∧ h = h0) := by
  refine Ct.intro (plainFor_of_name pn_java_lang_StringLatin1) (ew hw) (ef_cenc c) ?_
  intro x hl hn0 hkn hsf hh H0
  have hnar : x.nar = false := hn0.trans hnr
  have H0 : Hr x b_cenc Z EL1 0 0 h0 [] 0 #[.val (.int c)] [] := H0
  have H1 : Hr x b_cenc Z EL1 0 0 h0 [] 1 #[.val (.int c)] [.int c] := H0.iloadN d_cenc_0
  have H2 : Hr x b_cenc Z EL1 0 0 h0 [] 4 #[.val (.int c)] [.int (255 : Int32), .int c] := H1.sipush d_cenc_1
  have H3 : Hr x b_cenc Z EL1 0 0 h0 [] 7 #[.val (.int c)] [] := H2.icmpF d_cenc_4 (XT.ii_gt_f rc.2)
  have H4 : Hr x b_cenc Z EL1 0 0 h0 [] 8 #[.val (.int c)] [.int (1 : Int32)] := H3.iconst d_cenc_7
  have H5 : Hr x b_cenc Z EL1 0 0 h0 [] 12 #[.val (.int c)] [.int (1 : Int32)] := H4.goto d_cenc_8
  exact H5.finZ d_cenc_12 (t := .boolean) (by first | rfl | decide) ⟨rfl, rfl, rfl⟩ sub0
def b_tob : Bx := (({ frames := 0, cells := 1, slots := 1, locals := 0 } : Room), (⟨"java/lang/StringLatin1", "toBytes", "(C)[B"⟩ : MethodName), jdk_43_method_46_code, 1, (Option.some (Jvm.ClassFile.FieldType.array Jvm.ClassFile.FieldType.byte)))
theorem ef_tob (c : Int32) (mI : MethodId) : entryFrame mI #[.int c] 1 = mkF mI 0 #[.val (.int c)] [] := by first | (simp [entryFrame, mkF, argsToLocals, Value.category]; done) | rfl
theorem pd_tob : parseMethodDescriptor "(C)[B" = some ⟨[.char], some (.array .byte)⟩ := by decide +kernel
set_option maxRecDepth 65536 in
set_option maxHeartbeats 4000000 in
theorem ct_tob {a0 : Array Value} {Z : State} (hw : ∀ d ∈ tables_1, d.before a0 Z = true) (l : Launch) (nar kn : Bool) (hnr : nar = false) (h0 : Heap) (c : Int32) :
    Ct l Z EL1 (⟨"java/lang/StringLatin1", "toBytes", "(C)[B"⟩ : MethodName) jdk_43_method_46_code 1 (Option.some (Jvm.ClassFile.FieldType.array Jvm.ClassFile.FieldType.byte)) ({ frames := 0, cells := 1, slots := 1, locals := 0 } : Room) #[.int c] h0 [] nar kn (fun v h sn => ∃ t, v = some (.ref t) ∧ h0.size ≤ t ∧ sn = [t] ∧ Ar Z h t .byte ([b8 c].map Value.int)) := by
  refine Ct.intro (plainFor_of_name pn_java_lang_StringLatin1) (ew hw) (ef_tob c) ?_
  intro x hl hn0 hkn hsf hh H0
  have hnar : x.nar = false := hn0.trans hnr
  have H0 : Hr x b_tob Z EL1 0 0 h0 [] 0 #[.val (.int c)] [] := H0
  have H1 : Hr x b_tob Z EL1 0 0 h0 [] 1 #[.val (.int c)] [.int (1 : Int32)] := H0.iconst d_tob_0
  obtain ⟨h1, E1, F1, H2⟩ := H1.newarray (aty := .byte) (cap := 1) (w24 hw) d_tob_1 (by decide) (by decide) (by decide) (by first | decide | (simp [b_tob, Bx.R]; done) | (simp [b_tob, Bx.R]; omega)) (by first | decide | (simp [b_tob, Bx.R]; done) | (simp [b_tob, Bx.R]; omega))
  obtain ⟨d, g_d⟩ : ∃ z, z = h0.size := ⟨_, rfl⟩
  rw [← g_d] at F1 H2
  have F1 : Ar Z h1 d .byte (List.replicate 1 (.int 0)) := F1
  have H2 : Hr x b_tob Z EL1 1 1 h1 [d] 3 #[.val (.int c)] [.ref d] := H2
  have H3 : Hr x b_tob Z EL1 1 1 h1 [d] 4 #[.val (.int c)] [.ref d, .ref d] := H2.dup d_tob_3
  have H4 : Hr x b_tob Z EL1 1 1 h1 [d] 5 #[.val (.int c)] [.int (0 : Int32), .ref d, .ref d] := H3.iconst d_tob_4
  have H5 : Hr x b_tob Z EL1 1 1 h1 [d] 6 #[.val (.int c)] [.int c, .int (0 : Int32), .ref d, .ref d] := H4.iloadN d_tob_5
  have H6 : Hr x b_tob Z EL1 1 1 h1 [d] 7 #[.val (.int c)] [.int (b8 c), .int (0 : Int32), .ref d, .ref d] := H5.i2b d_tob_6
  obtain ⟨h2, W2, H7⟩ := H6.bastore (by simp) F1 d_tob_7 (i := 0) rfl (by simp) (hw := (b8_b8 _))
  have H7 : Hr x b_tob Z EL1 1 1 h2 [d] 8 #[.val (.int c)] [.ref d] := H7
  have F2 : Ar Z h2 d .byte ([b8 c].map Value.int) := F1.set W2
  exact H7.finA d_tob_8 ⟨d, rfl, by omega, rfl, F2⟩ (sub1 (by simp))
def b_sinib : Bx := (({ frames := 1, cells := 0, slots := 0, locals := 12 } : Room), (⟨"java/lang/String", "<init>", "([BB)V"⟩ : MethodName), jdk_42_method_151_code, 3, (Option.none : Option Jvm.ClassFile.FieldType))
theorem ef_sinib (s t : Addr) (mI : MethodId) : entryFrame mI #[.ref s, .ref t, .int (0 : Int32)] 3 = mkF mI 0 #[.val (.ref s), .val (.ref t), .val (.int (0 : Int32))] [] := by first | (simp [entryFrame, mkF, argsToLocals, Value.category]; done) | rfl
theorem pd_sinib : parseMethodDescriptor "([BB)V" = some ⟨[(.array .byte), .byte], none⟩ := by decide +kernel
set_option maxRecDepth 65536 in
set_option maxHeartbeats 4000000 in
theorem ct_sinib {a0 : Array Value} {Z : State} (hw : ∀ d ∈ tables_1, d.before a0 Z = true) (l : Launch) (nar kn : Bool) (hnr : nar = false) (h0 : Heap) (s t : Addr) (bs : List Int32) (Es : Exa Z h0 s "java/lang/String") (Fc : Fld Z h0 s "java/lang/String" "coder" "B" (.int 0)) (Fv : Fld Z h0 s "java/lang/String" "value" "[B" .null) (Ft : Ar Z h0 t .byte (bs.map Value.int)) (hst : t ≠ s) :
    Ct l Z EL1 (⟨"java/lang/String", "<init>", "([BB)V"⟩ : MethodName) jdk_42_method_151_code 3 (Option.none : Option Jvm.ClassFile.FieldType) ({ frames := 1, cells := 0, slots := 0, locals := 12 } : Room) #[.ref s, .ref t, .int (0 : Int32)] h0 [s] nar kn (fun v h sn => v = none ∧ sn = [] ∧ Str Z h s t bs) := by
  refine Ct.intro (plainFor_of_name pn_java_lang_String) (ew hw) (ef_sinib s t) ?_
  intro x hl hn0 hkn hsf hh H0
  have hnar : x.nar = false := hn0.trans hnr
  have H0 : Hr x b_sinib Z EL1 0 0 h0 [s] 0 #[.val (.ref s), .val (.ref t), .val (.int (0 : Int32))] [] := H0
  have H1 : Hr x b_sinib Z EL1 0 0 h0 [s] 1 #[.val (.ref s), .val (.ref t), .val (.int (0 : Int32))] [.ref s] := H0.aloadN d_sinib_0
  have H2 : Hr x b_sinib Z EL1 0 0 h0 [s] 4 #[.val (.ref s), .val (.ref t), .val (.int (0 : Int32))] [] := H1.initO (Wr := 0) (w16 hw) (w17 hw) (w18 hw) d_sinib_1 (hf := by first | decide | (simp [b_sinib, Bx.R]; done) | (simp [b_sinib, Bx.R]; omega)) (hl := by first | decide | (simp [b_sinib, Bx.R]; done) | (simp [b_sinib, Bx.R]; omega))
  have H3 : Hr x b_sinib Z EL1 0 0 h0 [s] 5 #[.val (.ref s), .val (.ref t), .val (.int (0 : Int32))] [.ref s] := H2.aloadN d_sinib_4
  have H4 : Hr x b_sinib Z EL1 0 0 h0 [s] 6 #[.val (.ref s), .val (.ref t), .val (.int (0 : Int32))] [.ref t, .ref s] := H3.aloadN d_sinib_5
  have slne := slot_ne (a0 := a0) (C := "java/lang/String") (n := "value") (n' := "coder") (Or.inr (w34 hw)) (Or.inr (w32 hw)) (by decide) (t := .array .byte) (t' := .byte) (by decide) (by decide)
  obtain ⟨h1, W1, H5⟩ := H4.putF (by simp) (w33 hw) Fv Es (Or.inr ⟨(w34 hw), rfl, rfl⟩) (w7 hw) d_sinib_6 (ty := (.array .byte))
  have H5 : Hr x b_sinib Z EL1 0 0 h1 [s] 9 #[.val (.ref s), .val (.ref t), .val (.int (0 : Int32))] [] := H5
  have H6 : Hr x b_sinib Z EL1 0 0 h1 [s] 10 #[.val (.ref s), .val (.ref t), .val (.int (0 : Int32))] [.ref s] := H5.aloadN d_sinib_9
  have H7 : Hr x b_sinib Z EL1 0 0 h1 [s] 11 #[.val (.ref s), .val (.ref t), .val (.int (0 : Int32))] [.int (0 : Int32), .ref s] := H6.iloadN d_sinib_10
  obtain ⟨h2, W2, H8⟩ := H7.putF (by simp) (w31 hw) (Fc.other W1 (Or.inr (Ne.symm slne))) (Es.wr W1) (Or.inr ⟨(w32 hw), rfl, rfl⟩) (w7 hw) d_sinib_11 (ty := .byte)
  have H8 : Hr x b_sinib Z EL1 0 0 h2 [s] 14 #[.val (.ref s), .val (.ref t), .val (.int (0 : Int32))] [] := H8
  exact H8.finN d_sinib_14 rfl (by decide) (by decide) sub0 ⟨rfl, rfl, (Es.wr W1).wr W2, Fld.same W2 (Fc.other W1 (Or.inr (Ne.symm slne))), (Fld.same W1 Fv).other W2 (Or.inr slne), (Ft.other W1 hst).other W2 hst⟩
def b_vof : Bx := (({ frames := 2, cells := 2, slots := 5, locals := 28 } : Room), (⟨"java/lang/String", "valueOf", "(C)Ljava/lang/String;"⟩ : MethodName), jdk_42_method_139_code, 1, (Option.some (Jvm.ClassFile.FieldType.object "java/lang/String")))
theorem ef_vof (c : Int32) (mI : MethodId) : entryFrame mI #[.int c] 1 = mkF mI 0 #[.val (.int c)] [] := by first | (simp [entryFrame, mkF, argsToLocals, Value.category]; done) | rfl
theorem pd_vof : parseMethodDescriptor "(C)Ljava/lang/String;" = some ⟨[.char], some (.object "java/lang/String")⟩ := by decide +kernel
set_option maxRecDepth 65536 in
set_option maxHeartbeats 4000000 in
theorem ct_vof {a0 : Array Value} {Z : State} (hw : ∀ d ∈ tables_1, d.before a0 Z = true) (l : Launch) (nar kn : Bool) (hnr : nar = false) (h0 : Heap) (c : Int32) (rc : ¬ c < 0 ∧ ¬ 255 < c) (cz : Int32) (O : Sta Z Z.heap "java/lang/String" "COMPACT_STRINGS" "Z" (.int cz)) (hcz : ¬ cz = 0) :
    Ct l Z EL1 (⟨"java/lang/String", "valueOf", "(C)Ljava/lang/String;"⟩ : MethodName) jdk_42_method_139_code 1 (Option.some (Jvm.ClassFile.FieldType.object "java/lang/String")) ({ frames := 2, cells := 2, slots := 5, locals := 28 } : Room) #[.int c] h0 [] nar kn (fun v h sn => ∃ a t, v = some (.ref a) ∧ sn = [] ∧ Str Z h a t [b8 c]) := by
  refine Ct.intro (plainFor_of_name pn_java_lang_String) (ew hw) (ef_vof c) ?_
  intro x hl hn0 hkn hsf hh H0
  have hnar : x.nar = false := hn0.trans hnr
  have H0 : Hr x b_vof Z EL1 0 0 h0 [] 0 #[.val (.int c)] [] := H0
  have H1 : Hr x b_vof Z EL1 0 0 h0 [] 3 #[.val (.int c)] [.int cz] := H0.getS (w19 hw) (O.ext H0.old) d_vof_0
  have H2 : Hr x b_vof Z EL1 0 0 h0 [] 6 #[.val (.int c)] [] := H1.ifF d_vof_3 (XT.i0_eq_f hcz)
  have H3 : Hr x b_vof Z EL1 0 0 h0 [] 7 #[.val (.int c)] [.int c] := H2.iloadN d_vof_6
  obtain ⟨_, h1, _, ⟨rfl, rfl, e1⟩, K1, H4⟩ := H3.callS (argsL := [.int c]) (rest := []) (Wr := 0) (ct_cenc hw x.l x.nar x.kn hnar h0 c rc) sub0 (w79 hw) (w80 hw) (w66 hw) (w81 hw) d_vof_7 pd_cenc rfl (hf := by first | decide | (simp [b_vof, Bx.R]; done) | (simp [b_vof, Bx.R]; omega)) (hl := by first | decide | (simp [b_vof, Bx.R]; done) | (simp [b_vof, Bx.R]; omega)) (hc := by first | decide | (simp [b_vof, Bx.R]; done) | (simp [b_vof, Bx.R]; omega)) (hs := by first | decide | (simp [b_vof, Bx.R]; done) | (simp [b_vof, Bx.R]; omega))
  rw [e1] at H4
  have H4 : Hr x b_vof Z EL1 0 0 h0 [] 10 #[.val (.int c)] [.int (1 : Int32)] := H4
  have H5 : Hr x b_vof Z EL1 0 0 h0 [] 13 #[.val (.int c)] [] := H4.ifF d_vof_10 (XT.i0_eq_f (by decide))
  obtain ⟨h2, E2, ⟨X2, D2, U2⟩, H6⟩ := H5.new (w63 hw) (w7 hw) (w8 hw) d_vof_13 (by first | decide | (simp [b_vof, Bx.R]; done) | (simp [b_vof, Bx.R]; omega)) (by first | decide | (simp [b_vof, Bx.R]; done) | (simp [b_vof, Bx.R]; omega))
  obtain ⟨s, g_s⟩ : ∃ z, z = h0.size := ⟨_, rfl⟩
  rw [← g_s] at X2 D2 U2 H6
  have H6 : Hr x b_vof Z EL1 1 4 h2 [s] 16 #[.val (.int c)] [.ref s] := H6
  have H7 : Hr x b_vof Z EL1 1 4 h2 [s] 17 #[.val (.int c)] [.ref s, .ref s] := H6.dup d_vof_16
  have H8 : Hr x b_vof Z EL1 1 4 h2 [s] 18 #[.val (.int c)] [.int c, .ref s, .ref s] := H7.iloadN d_vof_17
  have Fc : Fld Z h2 s "java/lang/String" "coder" "B" (.int 0) := D2 (Or.inr (w32 hw)) (ty := .byte) (by decide)
  have Fv : Fld Z h2 s "java/lang/String" "value" "[B" .null := D2 (Or.inr (w34 hw)) (ty := .array .byte) (by decide)
  obtain ⟨_, h3, _, ⟨t, rfl, ht, rfl, Ft⟩, K3, H9⟩ := H8.callS (argsL := [.int c]) (rest := [.ref s, .ref s]) (Wr := 2) (ct_tob hw x.l x.nar x.kn hnar h2 c) sub0 (w82 hw) (w83 hw) (w66 hw) (w84 hw) d_vof_18 pd_tob rfl (hf := by first | decide | (simp [b_vof, Bx.R]; done) | (simp [b_vof, Bx.R]; omega)) (hl := by first | decide | (simp [b_vof, Bx.R]; done) | (simp [b_vof, Bx.R]; omega)) (hc := by first | decide | (simp [b_vof, Bx.R]; done) | (simp [b_vof, Bx.R]; omega)) (hs := by first | decide | (simp [b_vof, Bx.R]; done) | (simp [b_vof, Bx.R]; omega))
  have H9 : Hr x b_vof Z EL1 2 5 h3 [t, s] 21 #[.val (.int c)] [.ref t, .ref s, .ref s] := H9
  have H10 : Hr x b_vof Z EL1 2 5 h3 [t, s] 22 #[.val (.int c)] [.int (0 : Int32), .ref t, .ref s, .ref s] := H9.iconst d_vof_21
  obtain ⟨_, h4, _, ⟨rfl, rfl, Fs⟩, K4, H11⟩ := H10.callI (argsL := [.ref t, .int (0 : Int32)]) (rest := [.ref s]) (Wr := 1) (a := s) (ct_sinib hw x.l x.nar x.kn hnar h3 s t _ (X2.keep K3) (Fc.keep K3 nin0) (Fv.keep K3 nin0) Ft (neN (by have := exa_lt X2; omega))) (sub1 (by simp)) (w85 hw) (w86 hw) (w8 hw) (w87 hw) d_vof_22 pd_sinib rfl (hf := by first | decide | (simp [b_vof, Bx.R]; done) | (simp [b_vof, Bx.R]; omega)) (hl := by first | decide | (simp [b_vof, Bx.R]; done) | (simp [b_vof, Bx.R]; omega)) (hc := by first | decide | (simp [b_vof, Bx.R]; done) | (simp [b_vof, Bx.R]; omega)) (hs := by first | decide | (simp [b_vof, Bx.R]; done) | (simp [b_vof, Bx.R]; omega))
  have H11 : Hr x b_vof Z EL1 2 5 h4 [t, s] 25 #[.val (.int c)] [.ref s] := H11
  exact H11.finA d_vof_25 ⟨s, t, rfl, rfl, Fs⟩ sub0
def b_cut : Bx := (({ frames := 4, cells := 6, slots := 30, locals := 80 } : Room), (⟨"com/example/pigeonhole/pigeonhole/cli/BrokerNamedPinLaw", "cut", "([CI)Ljava/lang/String;"⟩ : MethodName), method_3_code, 2, (Option.some (Jvm.ClassFile.FieldType.object "java/lang/String")))
theorem ef_cut (a : Addr) (k : Int32) (mI : MethodId) : entryFrame mI #[.ref a, .int k] 2 = mkF mI 0 #[.val (.ref a), .val (.int k)] [] := by first | (simp [entryFrame, mkF, argsToLocals, Value.category]; done) | rfl
theorem pn_com_example_pigeonhole_pigeonhole_cli_BrokerNamedPinLaw : plainName "com/example/pigeonhole/pigeonhole/cli/BrokerNamedPinLaw" = true := by first | (simp [plainName, overriddenIn]; done) | decide +kernel
theorem pd_cut : parseMethodDescriptor "([CI)Ljava/lang/String;" = some ⟨[(.array .char), .int], some (.object "java/lang/String")⟩ := by decide +kernel
set_option maxRecDepth 65536 in
set_option maxHeartbeats 4000000 in
theorem ct_cut {a0 : Array Value} {Z : State} (hw : ∀ d ∈ tables_1, d.before a0 Z = true) (l : Launch) (nar kn : Bool) (hnr : nar = false) (h0 : Heap) (a : Addr) (k : Int32) (cs : List Int32) (hlen : cs.length = 9) (hr : ∀ c ∈ cs, ¬ c < 0 ∧ ¬ 255 < c) (Fa : Ar Z h0 a .char (cs.map Value.int)) (cz : Int32) (O : Sta Z Z.heap "java/lang/String" "COMPACT_STRINGS" "Z" (.int cz)) (hcz : ¬ cz = 0) :
    Ct l Z EL1 (⟨"com/example/pigeonhole/pigeonhole/cli/BrokerNamedPinLaw", "cut", "([CI)Ljava/lang/String;"⟩ : MethodName) method_3_code 2 (Option.some (Jvm.ClassFile.FieldType.object "java/lang/String")) ({ frames := 4, cells := 6, slots := 30, locals := 80 } : Room) #[.ref a, .int k] h0 [] nar kn (fun v h sn => ∃ s t bs, v = some (.ref s) ∧ sn = [] ∧ Str Z h s t bs) := by
  refine Ct.intro (plainFor_of_name pn_com_example_pigeonhole_pigeonhole_cli_BrokerNamedPinLaw) (ew hw) (ef_cut a k) ?_
  intro x hl hn0 hkn hsf hh H0
  have hnar : x.nar = false := hn0.trans hnr
  have H0 : Hr x b_cut Z EL1 0 0 h0 [] 0 #[.val (.ref a), .val (.int k)] [] := H0
  obtain ⟨c0, c1, c2, c3, c4, c5, c6, c7, c8, rfl⟩ : ∃ c0 c1 c2 c3 c4 c5 c6 c7 c8, cs = [c0, c1, c2, c3, c4, c5, c6, c7, c8] := by
    match cs, hlen with
    | [c0, c1, c2, c3, c4, c5, c6, c7, c8], _ => exact ⟨c0, c1, c2, c3, c4, c5, c6, c7, c8, rfl⟩
  have Fa : Ar Z h0 a .char [.int c0, .int c1, .int c2, .int c3, .int c4, .int c5, .int c6, .int c7, .int c8] := Fa
  have r0 := hr c0 (by simp)
  have r1 := hr c1 (by simp)
  have r2 := hr c2 (by simp)
  have r3 := hr c3 (by simp)
  have r4 := hr c4 (by simp)
  have r5 := hr c5 (by simp)
  have r6 := hr c6 (by simp)
  have r7 := hr c7 (by simp)
  have r8 := hr c8 (by simp)
  have H1 : Hr x b_cut Z EL1 0 0 h0 [] 1 #[.val (.ref a), .val (.int k)] [.int k] := H0.iloadN d_cut_0
  by_cases q0 : k = 0
  · have z1 := q0
    have H2 : Hr x b_cut Z EL1 0 0 h0 [] 4 #[.val (.ref a), .val (.int k)] [] := H1.ifF d_cut_1 (XT.i0_ne_f q0)
    obtain ⟨h1, E1, ⟨X1, D1, U1⟩, H3⟩ := H2.new (w6 hw) (w7 hw) (w8 hw) d_cut_4 (by first | decide | (simp [b_cut, Bx.R]; done) | (simp [b_cut, Bx.R]; omega)) (by first | decide | (simp [b_cut, Bx.R]; done) | (simp [b_cut, Bx.R]; omega))
    obtain ⟨s, g_s⟩ : ∃ z, z = h0.size := ⟨_, rfl⟩
    rw [← g_s] at X1 D1 U1 H3
    have H3 : Hr x b_cut Z EL1 1 4 h1 [s] 7 #[.val (.ref a), .val (.int k)] [.ref s] := H3
    have H4 : Hr x b_cut Z EL1 1 4 h1 [s] 8 #[.val (.ref a), .val (.int k)] [.ref s, .ref s] := H3.dup d_cut_7
    have H5 : Hr x b_cut Z EL1 1 4 h1 [s] 9 #[.val (.ref a), .val (.int k)] [.int (0 : Int32), .ref s, .ref s] := H4.iconst d_cut_8
    obtain ⟨h2, E2, F2, H6⟩ := H5.newarray (aty := .char) (cap := 0) (w0 hw) d_cut_9 (by decide) (by decide) (by decide) (by first | decide | (simp [b_cut, Bx.R]; done) | (simp [b_cut, Bx.R]; omega)) (by first | decide | (simp [b_cut, Bx.R]; done) | (simp [b_cut, Bx.R]; omega))
    obtain ⟨d, g_d⟩ : ∃ z, z = h1.size := ⟨_, rfl⟩
    rw [← g_d] at F2 H6
    have F2 : Ar Z h2 d .char (List.replicate 0 (.int 0)) := F2
    have H6 : Hr x b_cut Z EL1 2 4 h2 [d, s] 11 #[.val (.ref a), .val (.int k)] [.ref d, .ref s, .ref s] := H6
    have had : @Ne Nat a d := by have := Fa.lt; have := E1.1; omega
    have hsd : @Ne Nat s d := by have := exa_lt X1; omega
    have Fc : Fld Z h1 s "java/lang/String" "coder" "B" (.int 0) := D1 (Or.inr (w32 hw)) (ty := .byte) (by decide)
    have Fv : Fld Z h1 s "java/lang/String" "value" "[B" .null := D1 (Or.inr (w34 hw)) (ty := .array .byte) (by decide)
    obtain ⟨_, hE, _, ⟨rfl, rfl, t, Fs⟩, KE, H7⟩ := H6.callI (argsL := [.ref d]) (rest := [.ref s]) (Wr := 1) (a := s) (ct_sini1 hw x.l x.nar x.kn hnar h2 s d [] (X1.ext E2) (Fc.ext E2) (Fv.ext E2) F2 (by simp) hcs0 cz O hcz) (sub1 (by simp)) (w9 hw) (w10 hw) (w8 hw) (w11 hw) d_cut_11 pd_sini1 rfl (hf := by first | decide | (simp [b_cut, Bx.R]; done) | (simp [b_cut, Bx.R]; omega)) (hl := by first | decide | (simp [b_cut, Bx.R]; done) | (simp [b_cut, Bx.R]; omega)) (hc := by first | decide | (simp [b_cut, Bx.R]; done) | (simp [b_cut, Bx.R]; omega)) (hs := by first | decide | (simp [b_cut, Bx.R]; done) | (simp [b_cut, Bx.R]; omega))
    have H7 : Hr x b_cut Z EL1 6 12 hE [d, s] 14 #[.val (.ref a), .val (.int k)] [.ref s] := H7
    exact H7.finA d_cut_14 ⟨s, t, _, rfl, rfl, Fs⟩ sub0
  · have z7 := q0
    have H8 : Hr x b_cut Z EL1 0 0 h0 [] 15 #[.val (.ref a), .val (.int k)] [] := H1.ifT d_cut_1 (XT.i0_ne_t q0)
    have H9 : Hr x b_cut Z EL1 0 0 h0 [] 16 #[.val (.ref a), .val (.int k)] [.int k] := H8.iloadN d_cut_15
    have H10 : Hr x b_cut Z EL1 0 0 h0 [] 17 #[.val (.ref a), .val (.int k)] [.int (1 : Int32), .int k] := H9.iconst d_cut_16
    by_cases q1 : k = 1
    · have z10 := q1
      have H11 : Hr x b_cut Z EL1 0 0 h0 [] 20 #[.val (.ref a), .val (.int k)] [] := H10.icmpF d_cut_17 (XT.ii_ne_f q1)
      have H12 : Hr x b_cut Z EL1 0 0 h0 [] 21 #[.val (.ref a), .val (.int k)] [.ref a] := H11.aloadN d_cut_20
      have H13 : Hr x b_cut Z EL1 0 0 h0 [] 22 #[.val (.ref a), .val (.int k)] [.int (0 : Int32), .ref a] := H12.iconst d_cut_21
      have H14 : Hr x b_cut Z EL1 0 0 h0 [] 23 #[.val (.ref a), .val (.int k)] [.int c0] := H13.caload Fa d_cut_22 (i := 0) rfl rfl
      obtain ⟨_, h1, _, ⟨s, t, rfl, rfl, Fs⟩, K1, H15⟩ := H14.callS (argsL := [.int c0]) (rest := []) (Wr := 0) (ct_vof hw x.l x.nar x.kn hnar h0 c0 r0 cz O hcz) sub0 (w76 hw) (w77 hw) (w8 hw) (w78 hw) d_cut_23 pd_vof rfl (hf := by first | decide | (simp [b_cut, Bx.R]; done) | (simp [b_cut, Bx.R]; omega)) (hl := by first | decide | (simp [b_cut, Bx.R]; done) | (simp [b_cut, Bx.R]; omega)) (hc := by first | decide | (simp [b_cut, Bx.R]; done) | (simp [b_cut, Bx.R]; omega)) (hs := by first | decide | (simp [b_cut, Bx.R]; done) | (simp [b_cut, Bx.R]; omega))
      have H15 : Hr x b_cut Z EL1 2 5 h1 [] 26 #[.val (.ref a), .val (.int k)] [.ref s] := H15
      exact H15.finA d_cut_26 ⟨s, t, _, rfl, rfl, Fs⟩ sub0
    · have z15 := q1
      have H16 : Hr x b_cut Z EL1 0 0 h0 [] 27 #[.val (.ref a), .val (.int k)] [] := H10.icmpT d_cut_17 (XT.ii_ne_t q1)
      have H17 : Hr x b_cut Z EL1 0 0 h0 [] 28 #[.val (.ref a), .val (.int k)] [.int k] := H16.iloadN d_cut_27
      have H18 : Hr x b_cut Z EL1 0 0 h0 [] 29 #[.val (.ref a), .val (.int k)] [.int (2 : Int32), .int k] := H17.iconst d_cut_28
      by_cases q2 : k = 2
      · have z18 := q2
        have H19 : Hr x b_cut Z EL1 0 0 h0 [] 32 #[.val (.ref a), .val (.int k)] [] := H18.icmpF d_cut_29 (XT.ii_ne_f q2)
        obtain ⟨h1, E1, ⟨X1, D1, U1⟩, H20⟩ := H19.new (w6 hw) (w7 hw) (w8 hw) d_cut_32 (by first | decide | (simp [b_cut, Bx.R]; done) | (simp [b_cut, Bx.R]; omega)) (by first | decide | (simp [b_cut, Bx.R]; done) | (simp [b_cut, Bx.R]; omega))
        obtain ⟨s, g_s⟩ : ∃ z, z = h0.size := ⟨_, rfl⟩
        rw [← g_s] at X1 D1 U1 H20
        have H20 : Hr x b_cut Z EL1 1 4 h1 [s] 35 #[.val (.ref a), .val (.int k)] [.ref s] := H20
        have H21 : Hr x b_cut Z EL1 1 4 h1 [s] 36 #[.val (.ref a), .val (.int k)] [.ref s, .ref s] := H20.dup d_cut_35
        have H22 : Hr x b_cut Z EL1 1 4 h1 [s] 37 #[.val (.ref a), .val (.int k)] [.int (4 : Int32), .ref s, .ref s] := H21.iconst d_cut_36
        obtain ⟨h2, E2, F2, H23⟩ := H22.newarray (aty := .char) (cap := 4) (w0 hw) d_cut_37 (by decide) (by decide) (by decide) (by first | decide | (simp [b_cut, Bx.R]; done) | (simp [b_cut, Bx.R]; omega)) (by first | decide | (simp [b_cut, Bx.R]; done) | (simp [b_cut, Bx.R]; omega))
        obtain ⟨d, g_d⟩ : ∃ z, z = h1.size := ⟨_, rfl⟩
        rw [← g_d] at F2 H23
        have F2 : Ar Z h2 d .char (List.replicate 4 (.int 0)) := F2
        have H23 : Hr x b_cut Z EL1 2 8 h2 [d, s] 39 #[.val (.ref a), .val (.int k)] [.ref d, .ref s, .ref s] := H23
        have had : @Ne Nat a d := by have := Fa.lt; have := E1.1; omega
        have H24 : Hr x b_cut Z EL1 2 8 h2 [d, s] 40 #[.val (.ref a), .val (.int k)] [.ref d, .ref d, .ref s, .ref s] := H23.dup d_cut_39
        have H25 : Hr x b_cut Z EL1 2 8 h2 [d, s] 41 #[.val (.ref a), .val (.int k)] [.int (0 : Int32), .ref d, .ref d, .ref s, .ref s] := H24.iconst d_cut_40
        have H26 : Hr x b_cut Z EL1 2 8 h2 [d, s] 42 #[.val (.ref a), .val (.int k)] [.ref a, .int (0 : Int32), .ref d, .ref d, .ref s, .ref s] := H25.aloadN d_cut_41
        have H27 : Hr x b_cut Z EL1 2 8 h2 [d, s] 43 #[.val (.ref a), .val (.int k)] [.int (0 : Int32), .ref a, .int (0 : Int32), .ref d, .ref d, .ref s, .ref s] := H26.iconst d_cut_42
        have H28 : Hr x b_cut Z EL1 2 8 h2 [d, s] 44 #[.val (.ref a), .val (.int k)] [.int c0, .int (0 : Int32), .ref d, .ref d, .ref s, .ref s] := H27.caload ((Fa.ext E1).ext E2) d_cut_43 (i := 0) rfl rfl
        obtain ⟨hs0, W0, H29⟩ := H28.castore (by simp) F2 d_cut_44 (i := 0) rfl (by simp) (hw := (nar_c r0.1 r0.2))
        have H29 : Hr x b_cut Z EL1 2 8 hs0 [d, s] 45 #[.val (.ref a), .val (.int k)] [.ref d, .ref s, .ref s] := H29
        have F2 : Ar Z hs0 d .char [.int c0, .int 0, .int 0, .int 0] := F2.set W0
        have H30 : Hr x b_cut Z EL1 2 8 hs0 [d, s] 46 #[.val (.ref a), .val (.int k)] [.ref d, .ref d, .ref s, .ref s] := H29.dup d_cut_45
        have H31 : Hr x b_cut Z EL1 2 8 hs0 [d, s] 47 #[.val (.ref a), .val (.int k)] [.int (1 : Int32), .ref d, .ref d, .ref s, .ref s] := H30.iconst d_cut_46
        have H32 : Hr x b_cut Z EL1 2 8 hs0 [d, s] 48 #[.val (.ref a), .val (.int k)] [.ref a, .int (1 : Int32), .ref d, .ref d, .ref s, .ref s] := H31.aloadN d_cut_47
        have H33 : Hr x b_cut Z EL1 2 8 hs0 [d, s] 49 #[.val (.ref a), .val (.int k)] [.int (1 : Int32), .ref a, .int (1 : Int32), .ref d, .ref d, .ref s, .ref s] := H32.iconst d_cut_48
        have H34 : Hr x b_cut Z EL1 2 8 hs0 [d, s] 50 #[.val (.ref a), .val (.int k)] [.int c1, .int (1 : Int32), .ref d, .ref d, .ref s, .ref s] := H33.caload (((Fa.ext E1).ext E2).other W0 had) d_cut_49 (i := 1) rfl rfl
        obtain ⟨hs1, W1, H35⟩ := H34.castore (by simp) F2 d_cut_50 (i := 1) rfl (by simp) (hw := (nar_c r1.1 r1.2))
        have H35 : Hr x b_cut Z EL1 2 8 hs1 [d, s] 51 #[.val (.ref a), .val (.int k)] [.ref d, .ref s, .ref s] := H35
        have F2 : Ar Z hs1 d .char [.int c0, .int c1, .int 0, .int 0] := F2.set W1
        have H36 : Hr x b_cut Z EL1 2 8 hs1 [d, s] 52 #[.val (.ref a), .val (.int k)] [.ref d, .ref d, .ref s, .ref s] := H35.dup d_cut_51
        have H37 : Hr x b_cut Z EL1 2 8 hs1 [d, s] 53 #[.val (.ref a), .val (.int k)] [.int (2 : Int32), .ref d, .ref d, .ref s, .ref s] := H36.iconst d_cut_52
        have H38 : Hr x b_cut Z EL1 2 8 hs1 [d, s] 54 #[.val (.ref a), .val (.int k)] [.ref a, .int (2 : Int32), .ref d, .ref d, .ref s, .ref s] := H37.aloadN d_cut_53
        have H39 : Hr x b_cut Z EL1 2 8 hs1 [d, s] 55 #[.val (.ref a), .val (.int k)] [.int (2 : Int32), .ref a, .int (2 : Int32), .ref d, .ref d, .ref s, .ref s] := H38.iconst d_cut_54
        have H40 : Hr x b_cut Z EL1 2 8 hs1 [d, s] 56 #[.val (.ref a), .val (.int k)] [.int c2, .int (2 : Int32), .ref d, .ref d, .ref s, .ref s] := H39.caload ((((Fa.ext E1).ext E2).other W0 had).other W1 had) d_cut_55 (i := 2) rfl rfl
        obtain ⟨hs2, W2, H41⟩ := H40.castore (by simp) F2 d_cut_56 (i := 2) rfl (by simp) (hw := (nar_c r2.1 r2.2))
        have H41 : Hr x b_cut Z EL1 2 8 hs2 [d, s] 57 #[.val (.ref a), .val (.int k)] [.ref d, .ref s, .ref s] := H41
        have F2 : Ar Z hs2 d .char [.int c0, .int c1, .int c2, .int 0] := F2.set W2
        have H42 : Hr x b_cut Z EL1 2 8 hs2 [d, s] 58 #[.val (.ref a), .val (.int k)] [.ref d, .ref d, .ref s, .ref s] := H41.dup d_cut_57
        have H43 : Hr x b_cut Z EL1 2 8 hs2 [d, s] 59 #[.val (.ref a), .val (.int k)] [.int (3 : Int32), .ref d, .ref d, .ref s, .ref s] := H42.iconst d_cut_58
        have H44 : Hr x b_cut Z EL1 2 8 hs2 [d, s] 60 #[.val (.ref a), .val (.int k)] [.ref a, .int (3 : Int32), .ref d, .ref d, .ref s, .ref s] := H43.aloadN d_cut_59
        have H45 : Hr x b_cut Z EL1 2 8 hs2 [d, s] 61 #[.val (.ref a), .val (.int k)] [.int (3 : Int32), .ref a, .int (3 : Int32), .ref d, .ref d, .ref s, .ref s] := H44.iconst d_cut_60
        have H46 : Hr x b_cut Z EL1 2 8 hs2 [d, s] 62 #[.val (.ref a), .val (.int k)] [.int c3, .int (3 : Int32), .ref d, .ref d, .ref s, .ref s] := H45.caload (((((Fa.ext E1).ext E2).other W0 had).other W1 had).other W2 had) d_cut_61 (i := 3) rfl rfl
        obtain ⟨hs3, W3, H47⟩ := H46.castore (by simp) F2 d_cut_62 (i := 3) rfl (by simp) (hw := (nar_c r3.1 r3.2))
        have H47 : Hr x b_cut Z EL1 2 8 hs3 [d, s] 63 #[.val (.ref a), .val (.int k)] [.ref d, .ref s, .ref s] := H47
        have F2 : Ar Z hs3 d .char [.int c0, .int c1, .int c2, .int c3] := F2.set W3
        have hsd : @Ne Nat s d := by have := exa_lt X1; omega
        have Fc : Fld Z h1 s "java/lang/String" "coder" "B" (.int 0) := D1 (Or.inr (w32 hw)) (ty := .byte) (by decide)
        have Fv : Fld Z h1 s "java/lang/String" "value" "[B" .null := D1 (Or.inr (w34 hw)) (ty := .array .byte) (by decide)
        obtain ⟨_, hE, _, ⟨rfl, rfl, t, Fs⟩, KE, H48⟩ := H47.callI (argsL := [.ref d]) (rest := [.ref s]) (Wr := 1) (a := s) (ct_sini1 hw x.l x.nar x.kn hnar hs3 s d [c0, c1, c2, c3] (((((X1.ext E2).wr W0).wr W1).wr W2).wr W3) (((((Fc.ext E2).other W0 (Or.inl hsd)).other W1 (Or.inl hsd)).other W2 (Or.inl hsd)).other W3 (Or.inl hsd)) (((((Fv.ext E2).other W0 (Or.inl hsd)).other W1 (Or.inl hsd)).other W2 (Or.inl hsd)).other W3 (Or.inl hsd)) F2 (by simp) (hcsC r0 (hcsC r1 (hcsC r2 (hcsC r3 hcs0)))) cz O hcz) (sub1 (by simp)) (w9 hw) (w10 hw) (w8 hw) (w11 hw) d_cut_63 pd_sini1 rfl (hf := by first | decide | (simp [b_cut, Bx.R]; done) | (simp [b_cut, Bx.R]; omega)) (hl := by first | decide | (simp [b_cut, Bx.R]; done) | (simp [b_cut, Bx.R]; omega)) (hc := by first | decide | (simp [b_cut, Bx.R]; done) | (simp [b_cut, Bx.R]; omega)) (hs := by first | decide | (simp [b_cut, Bx.R]; done) | (simp [b_cut, Bx.R]; omega))
        have H48 : Hr x b_cut Z EL1 6 20 hE [d, s] 66 #[.val (.ref a), .val (.int k)] [.ref s] := H48
        exact H48.finA d_cut_66 ⟨s, t, _, rfl, rfl, Fs⟩ sub0
      · have z48 := q2
        have H49 : Hr x b_cut Z EL1 0 0 h0 [] 67 #[.val (.ref a), .val (.int k)] [] := H18.icmpT d_cut_29 (XT.ii_ne_t q2)
        have H50 : Hr x b_cut Z EL1 0 0 h0 [] 68 #[.val (.ref a), .val (.int k)] [.int k] := H49.iloadN d_cut_67
        have H51 : Hr x b_cut Z EL1 0 0 h0 [] 69 #[.val (.ref a), .val (.int k)] [.int (3 : Int32), .int k] := H50.iconst d_cut_68
        by_cases q3 : k = 3
        · have z51 := q3
          have H52 : Hr x b_cut Z EL1 0 0 h0 [] 72 #[.val (.ref a), .val (.int k)] [] := H51.icmpF d_cut_69 (XT.ii_ne_f q3)
          obtain ⟨h1, E1, ⟨X1, D1, U1⟩, H53⟩ := H52.new (w6 hw) (w7 hw) (w8 hw) d_cut_72 (by first | decide | (simp [b_cut, Bx.R]; done) | (simp [b_cut, Bx.R]; omega)) (by first | decide | (simp [b_cut, Bx.R]; done) | (simp [b_cut, Bx.R]; omega))
          obtain ⟨s, g_s⟩ : ∃ z, z = h0.size := ⟨_, rfl⟩
          rw [← g_s] at X1 D1 U1 H53
          have H53 : Hr x b_cut Z EL1 1 4 h1 [s] 75 #[.val (.ref a), .val (.int k)] [.ref s] := H53
          have H54 : Hr x b_cut Z EL1 1 4 h1 [s] 76 #[.val (.ref a), .val (.int k)] [.ref s, .ref s] := H53.dup d_cut_75
          have H55 : Hr x b_cut Z EL1 1 4 h1 [s] 77 #[.val (.ref a), .val (.int k)] [.int (5 : Int32), .ref s, .ref s] := H54.iconst d_cut_76
          obtain ⟨h2, E2, F2, H56⟩ := H55.newarray (aty := .char) (cap := 5) (w0 hw) d_cut_77 (by decide) (by decide) (by decide) (by first | decide | (simp [b_cut, Bx.R]; done) | (simp [b_cut, Bx.R]; omega)) (by first | decide | (simp [b_cut, Bx.R]; done) | (simp [b_cut, Bx.R]; omega))
          obtain ⟨d, g_d⟩ : ∃ z, z = h1.size := ⟨_, rfl⟩
          rw [← g_d] at F2 H56
          have F2 : Ar Z h2 d .char (List.replicate 5 (.int 0)) := F2
          have H56 : Hr x b_cut Z EL1 2 9 h2 [d, s] 79 #[.val (.ref a), .val (.int k)] [.ref d, .ref s, .ref s] := H56
          have had : @Ne Nat a d := by have := Fa.lt; have := E1.1; omega
          have H57 : Hr x b_cut Z EL1 2 9 h2 [d, s] 80 #[.val (.ref a), .val (.int k)] [.ref d, .ref d, .ref s, .ref s] := H56.dup d_cut_79
          have H58 : Hr x b_cut Z EL1 2 9 h2 [d, s] 81 #[.val (.ref a), .val (.int k)] [.int (0 : Int32), .ref d, .ref d, .ref s, .ref s] := H57.iconst d_cut_80
          have H59 : Hr x b_cut Z EL1 2 9 h2 [d, s] 82 #[.val (.ref a), .val (.int k)] [.ref a, .int (0 : Int32), .ref d, .ref d, .ref s, .ref s] := H58.aloadN d_cut_81
          have H60 : Hr x b_cut Z EL1 2 9 h2 [d, s] 83 #[.val (.ref a), .val (.int k)] [.int (0 : Int32), .ref a, .int (0 : Int32), .ref d, .ref d, .ref s, .ref s] := H59.iconst d_cut_82
          have H61 : Hr x b_cut Z EL1 2 9 h2 [d, s] 84 #[.val (.ref a), .val (.int k)] [.int c0, .int (0 : Int32), .ref d, .ref d, .ref s, .ref s] := H60.caload ((Fa.ext E1).ext E2) d_cut_83 (i := 0) rfl rfl
          obtain ⟨hs0, W0, H62⟩ := H61.castore (by simp) F2 d_cut_84 (i := 0) rfl (by simp) (hw := (nar_c r0.1 r0.2))
          have H62 : Hr x b_cut Z EL1 2 9 hs0 [d, s] 85 #[.val (.ref a), .val (.int k)] [.ref d, .ref s, .ref s] := H62
          have F2 : Ar Z hs0 d .char [.int c0, .int 0, .int 0, .int 0, .int 0] := F2.set W0
          have H63 : Hr x b_cut Z EL1 2 9 hs0 [d, s] 86 #[.val (.ref a), .val (.int k)] [.ref d, .ref d, .ref s, .ref s] := H62.dup d_cut_85
          have H64 : Hr x b_cut Z EL1 2 9 hs0 [d, s] 87 #[.val (.ref a), .val (.int k)] [.int (1 : Int32), .ref d, .ref d, .ref s, .ref s] := H63.iconst d_cut_86
          have H65 : Hr x b_cut Z EL1 2 9 hs0 [d, s] 88 #[.val (.ref a), .val (.int k)] [.ref a, .int (1 : Int32), .ref d, .ref d, .ref s, .ref s] := H64.aloadN d_cut_87
          have H66 : Hr x b_cut Z EL1 2 9 hs0 [d, s] 89 #[.val (.ref a), .val (.int k)] [.int (1 : Int32), .ref a, .int (1 : Int32), .ref d, .ref d, .ref s, .ref s] := H65.iconst d_cut_88
          have H67 : Hr x b_cut Z EL1 2 9 hs0 [d, s] 90 #[.val (.ref a), .val (.int k)] [.int c1, .int (1 : Int32), .ref d, .ref d, .ref s, .ref s] := H66.caload (((Fa.ext E1).ext E2).other W0 had) d_cut_89 (i := 1) rfl rfl
          obtain ⟨hs1, W1, H68⟩ := H67.castore (by simp) F2 d_cut_90 (i := 1) rfl (by simp) (hw := (nar_c r1.1 r1.2))
          have H68 : Hr x b_cut Z EL1 2 9 hs1 [d, s] 91 #[.val (.ref a), .val (.int k)] [.ref d, .ref s, .ref s] := H68
          have F2 : Ar Z hs1 d .char [.int c0, .int c1, .int 0, .int 0, .int 0] := F2.set W1
          have H69 : Hr x b_cut Z EL1 2 9 hs1 [d, s] 92 #[.val (.ref a), .val (.int k)] [.ref d, .ref d, .ref s, .ref s] := H68.dup d_cut_91
          have H70 : Hr x b_cut Z EL1 2 9 hs1 [d, s] 93 #[.val (.ref a), .val (.int k)] [.int (2 : Int32), .ref d, .ref d, .ref s, .ref s] := H69.iconst d_cut_92
          have H71 : Hr x b_cut Z EL1 2 9 hs1 [d, s] 94 #[.val (.ref a), .val (.int k)] [.ref a, .int (2 : Int32), .ref d, .ref d, .ref s, .ref s] := H70.aloadN d_cut_93
          have H72 : Hr x b_cut Z EL1 2 9 hs1 [d, s] 95 #[.val (.ref a), .val (.int k)] [.int (2 : Int32), .ref a, .int (2 : Int32), .ref d, .ref d, .ref s, .ref s] := H71.iconst d_cut_94
          have H73 : Hr x b_cut Z EL1 2 9 hs1 [d, s] 96 #[.val (.ref a), .val (.int k)] [.int c2, .int (2 : Int32), .ref d, .ref d, .ref s, .ref s] := H72.caload ((((Fa.ext E1).ext E2).other W0 had).other W1 had) d_cut_95 (i := 2) rfl rfl
          obtain ⟨hs2, W2, H74⟩ := H73.castore (by simp) F2 d_cut_96 (i := 2) rfl (by simp) (hw := (nar_c r2.1 r2.2))
          have H74 : Hr x b_cut Z EL1 2 9 hs2 [d, s] 97 #[.val (.ref a), .val (.int k)] [.ref d, .ref s, .ref s] := H74
          have F2 : Ar Z hs2 d .char [.int c0, .int c1, .int c2, .int 0, .int 0] := F2.set W2
          have H75 : Hr x b_cut Z EL1 2 9 hs2 [d, s] 98 #[.val (.ref a), .val (.int k)] [.ref d, .ref d, .ref s, .ref s] := H74.dup d_cut_97
          have H76 : Hr x b_cut Z EL1 2 9 hs2 [d, s] 99 #[.val (.ref a), .val (.int k)] [.int (3 : Int32), .ref d, .ref d, .ref s, .ref s] := H75.iconst d_cut_98
          have H77 : Hr x b_cut Z EL1 2 9 hs2 [d, s] 100 #[.val (.ref a), .val (.int k)] [.ref a, .int (3 : Int32), .ref d, .ref d, .ref s, .ref s] := H76.aloadN d_cut_99
          have H78 : Hr x b_cut Z EL1 2 9 hs2 [d, s] 101 #[.val (.ref a), .val (.int k)] [.int (3 : Int32), .ref a, .int (3 : Int32), .ref d, .ref d, .ref s, .ref s] := H77.iconst d_cut_100
          have H79 : Hr x b_cut Z EL1 2 9 hs2 [d, s] 102 #[.val (.ref a), .val (.int k)] [.int c3, .int (3 : Int32), .ref d, .ref d, .ref s, .ref s] := H78.caload (((((Fa.ext E1).ext E2).other W0 had).other W1 had).other W2 had) d_cut_101 (i := 3) rfl rfl
          obtain ⟨hs3, W3, H80⟩ := H79.castore (by simp) F2 d_cut_102 (i := 3) rfl (by simp) (hw := (nar_c r3.1 r3.2))
          have H80 : Hr x b_cut Z EL1 2 9 hs3 [d, s] 103 #[.val (.ref a), .val (.int k)] [.ref d, .ref s, .ref s] := H80
          have F2 : Ar Z hs3 d .char [.int c0, .int c1, .int c2, .int c3, .int 0] := F2.set W3
          have H81 : Hr x b_cut Z EL1 2 9 hs3 [d, s] 104 #[.val (.ref a), .val (.int k)] [.ref d, .ref d, .ref s, .ref s] := H80.dup d_cut_103
          have H82 : Hr x b_cut Z EL1 2 9 hs3 [d, s] 105 #[.val (.ref a), .val (.int k)] [.int (4 : Int32), .ref d, .ref d, .ref s, .ref s] := H81.iconst d_cut_104
          have H83 : Hr x b_cut Z EL1 2 9 hs3 [d, s] 106 #[.val (.ref a), .val (.int k)] [.ref a, .int (4 : Int32), .ref d, .ref d, .ref s, .ref s] := H82.aloadN d_cut_105
          have H84 : Hr x b_cut Z EL1 2 9 hs3 [d, s] 107 #[.val (.ref a), .val (.int k)] [.int (4 : Int32), .ref a, .int (4 : Int32), .ref d, .ref d, .ref s, .ref s] := H83.iconst d_cut_106
          have H85 : Hr x b_cut Z EL1 2 9 hs3 [d, s] 108 #[.val (.ref a), .val (.int k)] [.int c4, .int (4 : Int32), .ref d, .ref d, .ref s, .ref s] := H84.caload ((((((Fa.ext E1).ext E2).other W0 had).other W1 had).other W2 had).other W3 had) d_cut_107 (i := 4) rfl rfl
          obtain ⟨hs4, W4, H86⟩ := H85.castore (by simp) F2 d_cut_108 (i := 4) rfl (by simp) (hw := (nar_c r4.1 r4.2))
          have H86 : Hr x b_cut Z EL1 2 9 hs4 [d, s] 109 #[.val (.ref a), .val (.int k)] [.ref d, .ref s, .ref s] := H86
          have F2 : Ar Z hs4 d .char [.int c0, .int c1, .int c2, .int c3, .int c4] := F2.set W4
          have hsd : @Ne Nat s d := by have := exa_lt X1; omega
          have Fc : Fld Z h1 s "java/lang/String" "coder" "B" (.int 0) := D1 (Or.inr (w32 hw)) (ty := .byte) (by decide)
          have Fv : Fld Z h1 s "java/lang/String" "value" "[B" .null := D1 (Or.inr (w34 hw)) (ty := .array .byte) (by decide)
          obtain ⟨_, hE, _, ⟨rfl, rfl, t, Fs⟩, KE, H87⟩ := H86.callI (argsL := [.ref d]) (rest := [.ref s]) (Wr := 1) (a := s) (ct_sini1 hw x.l x.nar x.kn hnar hs4 s d [c0, c1, c2, c3, c4] ((((((X1.ext E2).wr W0).wr W1).wr W2).wr W3).wr W4) ((((((Fc.ext E2).other W0 (Or.inl hsd)).other W1 (Or.inl hsd)).other W2 (Or.inl hsd)).other W3 (Or.inl hsd)).other W4 (Or.inl hsd)) ((((((Fv.ext E2).other W0 (Or.inl hsd)).other W1 (Or.inl hsd)).other W2 (Or.inl hsd)).other W3 (Or.inl hsd)).other W4 (Or.inl hsd)) F2 (by simp) (hcsC r0 (hcsC r1 (hcsC r2 (hcsC r3 (hcsC r4 hcs0))))) cz O hcz) (sub1 (by simp)) (w9 hw) (w10 hw) (w8 hw) (w11 hw) d_cut_109 pd_sini1 rfl (hf := by first | decide | (simp [b_cut, Bx.R]; done) | (simp [b_cut, Bx.R]; omega)) (hl := by first | decide | (simp [b_cut, Bx.R]; done) | (simp [b_cut, Bx.R]; omega)) (hc := by first | decide | (simp [b_cut, Bx.R]; done) | (simp [b_cut, Bx.R]; omega)) (hs := by first | decide | (simp [b_cut, Bx.R]; done) | (simp [b_cut, Bx.R]; omega))
          have H87 : Hr x b_cut Z EL1 6 22 hE [d, s] 112 #[.val (.ref a), .val (.int k)] [.ref s] := H87
          exact H87.finA d_cut_112 ⟨s, t, _, rfl, rfl, Fs⟩ sub0
        · have z87 := q3
          have H88 : Hr x b_cut Z EL1 0 0 h0 [] 113 #[.val (.ref a), .val (.int k)] [] := H51.icmpT d_cut_69 (XT.ii_ne_t q3)
          have H89 : Hr x b_cut Z EL1 0 0 h0 [] 114 #[.val (.ref a), .val (.int k)] [.int k] := H88.iloadN d_cut_113
          have H90 : Hr x b_cut Z EL1 0 0 h0 [] 115 #[.val (.ref a), .val (.int k)] [.int (4 : Int32), .int k] := H89.iconst d_cut_114
          by_cases q4 : k = 4
          · have z90 := q4
            have H91 : Hr x b_cut Z EL1 0 0 h0 [] 118 #[.val (.ref a), .val (.int k)] [] := H90.icmpF d_cut_115 (XT.ii_ne_f q4)
            obtain ⟨h1, E1, ⟨X1, D1, U1⟩, H92⟩ := H91.new (w6 hw) (w7 hw) (w8 hw) d_cut_118 (by first | decide | (simp [b_cut, Bx.R]; done) | (simp [b_cut, Bx.R]; omega)) (by first | decide | (simp [b_cut, Bx.R]; done) | (simp [b_cut, Bx.R]; omega))
            obtain ⟨s, g_s⟩ : ∃ z, z = h0.size := ⟨_, rfl⟩
            rw [← g_s] at X1 D1 U1 H92
            have H92 : Hr x b_cut Z EL1 1 4 h1 [s] 121 #[.val (.ref a), .val (.int k)] [.ref s] := H92
            have H93 : Hr x b_cut Z EL1 1 4 h1 [s] 122 #[.val (.ref a), .val (.int k)] [.ref s, .ref s] := H92.dup d_cut_121
            have H94 : Hr x b_cut Z EL1 1 4 h1 [s] 124 #[.val (.ref a), .val (.int k)] [.int (6 : Int32), .ref s, .ref s] := H93.bipush d_cut_122
            obtain ⟨h2, E2, F2, H95⟩ := H94.newarray (aty := .char) (cap := 6) (w0 hw) d_cut_124 (by decide) (by decide) (by decide) (by first | decide | (simp [b_cut, Bx.R]; done) | (simp [b_cut, Bx.R]; omega)) (by first | decide | (simp [b_cut, Bx.R]; done) | (simp [b_cut, Bx.R]; omega))
            obtain ⟨d, g_d⟩ : ∃ z, z = h1.size := ⟨_, rfl⟩
            rw [← g_d] at F2 H95
            have F2 : Ar Z h2 d .char (List.replicate 6 (.int 0)) := F2
            have H95 : Hr x b_cut Z EL1 2 10 h2 [d, s] 126 #[.val (.ref a), .val (.int k)] [.ref d, .ref s, .ref s] := H95
            have had : @Ne Nat a d := by have := Fa.lt; have := E1.1; omega
            have H96 : Hr x b_cut Z EL1 2 10 h2 [d, s] 127 #[.val (.ref a), .val (.int k)] [.ref d, .ref d, .ref s, .ref s] := H95.dup d_cut_126
            have H97 : Hr x b_cut Z EL1 2 10 h2 [d, s] 128 #[.val (.ref a), .val (.int k)] [.int (0 : Int32), .ref d, .ref d, .ref s, .ref s] := H96.iconst d_cut_127
            have H98 : Hr x b_cut Z EL1 2 10 h2 [d, s] 129 #[.val (.ref a), .val (.int k)] [.ref a, .int (0 : Int32), .ref d, .ref d, .ref s, .ref s] := H97.aloadN d_cut_128
            have H99 : Hr x b_cut Z EL1 2 10 h2 [d, s] 130 #[.val (.ref a), .val (.int k)] [.int (0 : Int32), .ref a, .int (0 : Int32), .ref d, .ref d, .ref s, .ref s] := H98.iconst d_cut_129
            have H100 : Hr x b_cut Z EL1 2 10 h2 [d, s] 131 #[.val (.ref a), .val (.int k)] [.int c0, .int (0 : Int32), .ref d, .ref d, .ref s, .ref s] := H99.caload ((Fa.ext E1).ext E2) d_cut_130 (i := 0) rfl rfl
            obtain ⟨hs0, W0, H101⟩ := H100.castore (by simp) F2 d_cut_131 (i := 0) rfl (by simp) (hw := (nar_c r0.1 r0.2))
            have H101 : Hr x b_cut Z EL1 2 10 hs0 [d, s] 132 #[.val (.ref a), .val (.int k)] [.ref d, .ref s, .ref s] := H101
            have F2 : Ar Z hs0 d .char [.int c0, .int 0, .int 0, .int 0, .int 0, .int 0] := F2.set W0
            have H102 : Hr x b_cut Z EL1 2 10 hs0 [d, s] 133 #[.val (.ref a), .val (.int k)] [.ref d, .ref d, .ref s, .ref s] := H101.dup d_cut_132
            have H103 : Hr x b_cut Z EL1 2 10 hs0 [d, s] 134 #[.val (.ref a), .val (.int k)] [.int (1 : Int32), .ref d, .ref d, .ref s, .ref s] := H102.iconst d_cut_133
            have H104 : Hr x b_cut Z EL1 2 10 hs0 [d, s] 135 #[.val (.ref a), .val (.int k)] [.ref a, .int (1 : Int32), .ref d, .ref d, .ref s, .ref s] := H103.aloadN d_cut_134
            have H105 : Hr x b_cut Z EL1 2 10 hs0 [d, s] 136 #[.val (.ref a), .val (.int k)] [.int (1 : Int32), .ref a, .int (1 : Int32), .ref d, .ref d, .ref s, .ref s] := H104.iconst d_cut_135
            have H106 : Hr x b_cut Z EL1 2 10 hs0 [d, s] 137 #[.val (.ref a), .val (.int k)] [.int c1, .int (1 : Int32), .ref d, .ref d, .ref s, .ref s] := H105.caload (((Fa.ext E1).ext E2).other W0 had) d_cut_136 (i := 1) rfl rfl
            obtain ⟨hs1, W1, H107⟩ := H106.castore (by simp) F2 d_cut_137 (i := 1) rfl (by simp) (hw := (nar_c r1.1 r1.2))
            have H107 : Hr x b_cut Z EL1 2 10 hs1 [d, s] 138 #[.val (.ref a), .val (.int k)] [.ref d, .ref s, .ref s] := H107
            have F2 : Ar Z hs1 d .char [.int c0, .int c1, .int 0, .int 0, .int 0, .int 0] := F2.set W1
            have H108 : Hr x b_cut Z EL1 2 10 hs1 [d, s] 139 #[.val (.ref a), .val (.int k)] [.ref d, .ref d, .ref s, .ref s] := H107.dup d_cut_138
            have H109 : Hr x b_cut Z EL1 2 10 hs1 [d, s] 140 #[.val (.ref a), .val (.int k)] [.int (2 : Int32), .ref d, .ref d, .ref s, .ref s] := H108.iconst d_cut_139
            have H110 : Hr x b_cut Z EL1 2 10 hs1 [d, s] 141 #[.val (.ref a), .val (.int k)] [.ref a, .int (2 : Int32), .ref d, .ref d, .ref s, .ref s] := H109.aloadN d_cut_140
            have H111 : Hr x b_cut Z EL1 2 10 hs1 [d, s] 142 #[.val (.ref a), .val (.int k)] [.int (2 : Int32), .ref a, .int (2 : Int32), .ref d, .ref d, .ref s, .ref s] := H110.iconst d_cut_141
            have H112 : Hr x b_cut Z EL1 2 10 hs1 [d, s] 143 #[.val (.ref a), .val (.int k)] [.int c2, .int (2 : Int32), .ref d, .ref d, .ref s, .ref s] := H111.caload ((((Fa.ext E1).ext E2).other W0 had).other W1 had) d_cut_142 (i := 2) rfl rfl
            obtain ⟨hs2, W2, H113⟩ := H112.castore (by simp) F2 d_cut_143 (i := 2) rfl (by simp) (hw := (nar_c r2.1 r2.2))
            have H113 : Hr x b_cut Z EL1 2 10 hs2 [d, s] 144 #[.val (.ref a), .val (.int k)] [.ref d, .ref s, .ref s] := H113
            have F2 : Ar Z hs2 d .char [.int c0, .int c1, .int c2, .int 0, .int 0, .int 0] := F2.set W2
            have H114 : Hr x b_cut Z EL1 2 10 hs2 [d, s] 145 #[.val (.ref a), .val (.int k)] [.ref d, .ref d, .ref s, .ref s] := H113.dup d_cut_144
            have H115 : Hr x b_cut Z EL1 2 10 hs2 [d, s] 146 #[.val (.ref a), .val (.int k)] [.int (3 : Int32), .ref d, .ref d, .ref s, .ref s] := H114.iconst d_cut_145
            have H116 : Hr x b_cut Z EL1 2 10 hs2 [d, s] 147 #[.val (.ref a), .val (.int k)] [.ref a, .int (3 : Int32), .ref d, .ref d, .ref s, .ref s] := H115.aloadN d_cut_146
            have H117 : Hr x b_cut Z EL1 2 10 hs2 [d, s] 148 #[.val (.ref a), .val (.int k)] [.int (3 : Int32), .ref a, .int (3 : Int32), .ref d, .ref d, .ref s, .ref s] := H116.iconst d_cut_147
            have H118 : Hr x b_cut Z EL1 2 10 hs2 [d, s] 149 #[.val (.ref a), .val (.int k)] [.int c3, .int (3 : Int32), .ref d, .ref d, .ref s, .ref s] := H117.caload (((((Fa.ext E1).ext E2).other W0 had).other W1 had).other W2 had) d_cut_148 (i := 3) rfl rfl
            obtain ⟨hs3, W3, H119⟩ := H118.castore (by simp) F2 d_cut_149 (i := 3) rfl (by simp) (hw := (nar_c r3.1 r3.2))
            have H119 : Hr x b_cut Z EL1 2 10 hs3 [d, s] 150 #[.val (.ref a), .val (.int k)] [.ref d, .ref s, .ref s] := H119
            have F2 : Ar Z hs3 d .char [.int c0, .int c1, .int c2, .int c3, .int 0, .int 0] := F2.set W3
            have H120 : Hr x b_cut Z EL1 2 10 hs3 [d, s] 151 #[.val (.ref a), .val (.int k)] [.ref d, .ref d, .ref s, .ref s] := H119.dup d_cut_150
            have H121 : Hr x b_cut Z EL1 2 10 hs3 [d, s] 152 #[.val (.ref a), .val (.int k)] [.int (4 : Int32), .ref d, .ref d, .ref s, .ref s] := H120.iconst d_cut_151
            have H122 : Hr x b_cut Z EL1 2 10 hs3 [d, s] 153 #[.val (.ref a), .val (.int k)] [.ref a, .int (4 : Int32), .ref d, .ref d, .ref s, .ref s] := H121.aloadN d_cut_152
            have H123 : Hr x b_cut Z EL1 2 10 hs3 [d, s] 154 #[.val (.ref a), .val (.int k)] [.int (4 : Int32), .ref a, .int (4 : Int32), .ref d, .ref d, .ref s, .ref s] := H122.iconst d_cut_153
            have H124 : Hr x b_cut Z EL1 2 10 hs3 [d, s] 155 #[.val (.ref a), .val (.int k)] [.int c4, .int (4 : Int32), .ref d, .ref d, .ref s, .ref s] := H123.caload ((((((Fa.ext E1).ext E2).other W0 had).other W1 had).other W2 had).other W3 had) d_cut_154 (i := 4) rfl rfl
            obtain ⟨hs4, W4, H125⟩ := H124.castore (by simp) F2 d_cut_155 (i := 4) rfl (by simp) (hw := (nar_c r4.1 r4.2))
            have H125 : Hr x b_cut Z EL1 2 10 hs4 [d, s] 156 #[.val (.ref a), .val (.int k)] [.ref d, .ref s, .ref s] := H125
            have F2 : Ar Z hs4 d .char [.int c0, .int c1, .int c2, .int c3, .int c4, .int 0] := F2.set W4
            have H126 : Hr x b_cut Z EL1 2 10 hs4 [d, s] 157 #[.val (.ref a), .val (.int k)] [.ref d, .ref d, .ref s, .ref s] := H125.dup d_cut_156
            have H127 : Hr x b_cut Z EL1 2 10 hs4 [d, s] 158 #[.val (.ref a), .val (.int k)] [.int (5 : Int32), .ref d, .ref d, .ref s, .ref s] := H126.iconst d_cut_157
            have H128 : Hr x b_cut Z EL1 2 10 hs4 [d, s] 159 #[.val (.ref a), .val (.int k)] [.ref a, .int (5 : Int32), .ref d, .ref d, .ref s, .ref s] := H127.aloadN d_cut_158
            have H129 : Hr x b_cut Z EL1 2 10 hs4 [d, s] 160 #[.val (.ref a), .val (.int k)] [.int (5 : Int32), .ref a, .int (5 : Int32), .ref d, .ref d, .ref s, .ref s] := H128.iconst d_cut_159
            have H130 : Hr x b_cut Z EL1 2 10 hs4 [d, s] 161 #[.val (.ref a), .val (.int k)] [.int c5, .int (5 : Int32), .ref d, .ref d, .ref s, .ref s] := H129.caload (((((((Fa.ext E1).ext E2).other W0 had).other W1 had).other W2 had).other W3 had).other W4 had) d_cut_160 (i := 5) rfl rfl
            obtain ⟨hs5, W5, H131⟩ := H130.castore (by simp) F2 d_cut_161 (i := 5) rfl (by simp) (hw := (nar_c r5.1 r5.2))
            have H131 : Hr x b_cut Z EL1 2 10 hs5 [d, s] 162 #[.val (.ref a), .val (.int k)] [.ref d, .ref s, .ref s] := H131
            have F2 : Ar Z hs5 d .char [.int c0, .int c1, .int c2, .int c3, .int c4, .int c5] := F2.set W5
            have hsd : @Ne Nat s d := by have := exa_lt X1; omega
            have Fc : Fld Z h1 s "java/lang/String" "coder" "B" (.int 0) := D1 (Or.inr (w32 hw)) (ty := .byte) (by decide)
            have Fv : Fld Z h1 s "java/lang/String" "value" "[B" .null := D1 (Or.inr (w34 hw)) (ty := .array .byte) (by decide)
            obtain ⟨_, hE, _, ⟨rfl, rfl, t, Fs⟩, KE, H132⟩ := H131.callI (argsL := [.ref d]) (rest := [.ref s]) (Wr := 1) (a := s) (ct_sini1 hw x.l x.nar x.kn hnar hs5 s d [c0, c1, c2, c3, c4, c5] (((((((X1.ext E2).wr W0).wr W1).wr W2).wr W3).wr W4).wr W5) (((((((Fc.ext E2).other W0 (Or.inl hsd)).other W1 (Or.inl hsd)).other W2 (Or.inl hsd)).other W3 (Or.inl hsd)).other W4 (Or.inl hsd)).other W5 (Or.inl hsd)) (((((((Fv.ext E2).other W0 (Or.inl hsd)).other W1 (Or.inl hsd)).other W2 (Or.inl hsd)).other W3 (Or.inl hsd)).other W4 (Or.inl hsd)).other W5 (Or.inl hsd)) F2 (by simp) (hcsC r0 (hcsC r1 (hcsC r2 (hcsC r3 (hcsC r4 (hcsC r5 hcs0)))))) cz O hcz) (sub1 (by simp)) (w9 hw) (w10 hw) (w8 hw) (w11 hw) d_cut_162 pd_sini1 rfl (hf := by first | decide | (simp [b_cut, Bx.R]; done) | (simp [b_cut, Bx.R]; omega)) (hl := by first | decide | (simp [b_cut, Bx.R]; done) | (simp [b_cut, Bx.R]; omega)) (hc := by first | decide | (simp [b_cut, Bx.R]; done) | (simp [b_cut, Bx.R]; omega)) (hs := by first | decide | (simp [b_cut, Bx.R]; done) | (simp [b_cut, Bx.R]; omega))
            have H132 : Hr x b_cut Z EL1 6 24 hE [d, s] 165 #[.val (.ref a), .val (.int k)] [.ref s] := H132
            exact H132.finA d_cut_165 ⟨s, t, _, rfl, rfl, Fs⟩ sub0
          · have z132 := q4
            have H133 : Hr x b_cut Z EL1 0 0 h0 [] 166 #[.val (.ref a), .val (.int k)] [] := H90.icmpT d_cut_115 (XT.ii_ne_t q4)
            have H134 : Hr x b_cut Z EL1 0 0 h0 [] 167 #[.val (.ref a), .val (.int k)] [.int k] := H133.iloadN d_cut_166
            have H135 : Hr x b_cut Z EL1 0 0 h0 [] 168 #[.val (.ref a), .val (.int k)] [.int (5 : Int32), .int k] := H134.iconst d_cut_167
            by_cases q5 : k = 5
            · have z135 := q5
              have H136 : Hr x b_cut Z EL1 0 0 h0 [] 171 #[.val (.ref a), .val (.int k)] [] := H135.icmpF d_cut_168 (XT.ii_ne_f q5)
              obtain ⟨h1, E1, ⟨X1, D1, U1⟩, H137⟩ := H136.new (w6 hw) (w7 hw) (w8 hw) d_cut_171 (by first | decide | (simp [b_cut, Bx.R]; done) | (simp [b_cut, Bx.R]; omega)) (by first | decide | (simp [b_cut, Bx.R]; done) | (simp [b_cut, Bx.R]; omega))
              obtain ⟨s, g_s⟩ : ∃ z, z = h0.size := ⟨_, rfl⟩
              rw [← g_s] at X1 D1 U1 H137
              have H137 : Hr x b_cut Z EL1 1 4 h1 [s] 174 #[.val (.ref a), .val (.int k)] [.ref s] := H137
              have H138 : Hr x b_cut Z EL1 1 4 h1 [s] 175 #[.val (.ref a), .val (.int k)] [.ref s, .ref s] := H137.dup d_cut_174
              have H139 : Hr x b_cut Z EL1 1 4 h1 [s] 177 #[.val (.ref a), .val (.int k)] [.int (7 : Int32), .ref s, .ref s] := H138.bipush d_cut_175
              obtain ⟨h2, E2, F2, H140⟩ := H139.newarray (aty := .char) (cap := 7) (w0 hw) d_cut_177 (by decide) (by decide) (by decide) (by first | decide | (simp [b_cut, Bx.R]; done) | (simp [b_cut, Bx.R]; omega)) (by first | decide | (simp [b_cut, Bx.R]; done) | (simp [b_cut, Bx.R]; omega))
              obtain ⟨d, g_d⟩ : ∃ z, z = h1.size := ⟨_, rfl⟩
              rw [← g_d] at F2 H140
              have F2 : Ar Z h2 d .char (List.replicate 7 (.int 0)) := F2
              have H140 : Hr x b_cut Z EL1 2 11 h2 [d, s] 179 #[.val (.ref a), .val (.int k)] [.ref d, .ref s, .ref s] := H140
              have had : @Ne Nat a d := by have := Fa.lt; have := E1.1; omega
              have H141 : Hr x b_cut Z EL1 2 11 h2 [d, s] 180 #[.val (.ref a), .val (.int k)] [.ref d, .ref d, .ref s, .ref s] := H140.dup d_cut_179
              have H142 : Hr x b_cut Z EL1 2 11 h2 [d, s] 181 #[.val (.ref a), .val (.int k)] [.int (0 : Int32), .ref d, .ref d, .ref s, .ref s] := H141.iconst d_cut_180
              have H143 : Hr x b_cut Z EL1 2 11 h2 [d, s] 182 #[.val (.ref a), .val (.int k)] [.ref a, .int (0 : Int32), .ref d, .ref d, .ref s, .ref s] := H142.aloadN d_cut_181
              have H144 : Hr x b_cut Z EL1 2 11 h2 [d, s] 183 #[.val (.ref a), .val (.int k)] [.int (0 : Int32), .ref a, .int (0 : Int32), .ref d, .ref d, .ref s, .ref s] := H143.iconst d_cut_182
              have H145 : Hr x b_cut Z EL1 2 11 h2 [d, s] 184 #[.val (.ref a), .val (.int k)] [.int c0, .int (0 : Int32), .ref d, .ref d, .ref s, .ref s] := H144.caload ((Fa.ext E1).ext E2) d_cut_183 (i := 0) rfl rfl
              obtain ⟨hs0, W0, H146⟩ := H145.castore (by simp) F2 d_cut_184 (i := 0) rfl (by simp) (hw := (nar_c r0.1 r0.2))
              have H146 : Hr x b_cut Z EL1 2 11 hs0 [d, s] 185 #[.val (.ref a), .val (.int k)] [.ref d, .ref s, .ref s] := H146
              have F2 : Ar Z hs0 d .char [.int c0, .int 0, .int 0, .int 0, .int 0, .int 0, .int 0] := F2.set W0
              have H147 : Hr x b_cut Z EL1 2 11 hs0 [d, s] 186 #[.val (.ref a), .val (.int k)] [.ref d, .ref d, .ref s, .ref s] := H146.dup d_cut_185
              have H148 : Hr x b_cut Z EL1 2 11 hs0 [d, s] 187 #[.val (.ref a), .val (.int k)] [.int (1 : Int32), .ref d, .ref d, .ref s, .ref s] := H147.iconst d_cut_186
              have H149 : Hr x b_cut Z EL1 2 11 hs0 [d, s] 188 #[.val (.ref a), .val (.int k)] [.ref a, .int (1 : Int32), .ref d, .ref d, .ref s, .ref s] := H148.aloadN d_cut_187
              have H150 : Hr x b_cut Z EL1 2 11 hs0 [d, s] 189 #[.val (.ref a), .val (.int k)] [.int (1 : Int32), .ref a, .int (1 : Int32), .ref d, .ref d, .ref s, .ref s] := H149.iconst d_cut_188
              have H151 : Hr x b_cut Z EL1 2 11 hs0 [d, s] 190 #[.val (.ref a), .val (.int k)] [.int c1, .int (1 : Int32), .ref d, .ref d, .ref s, .ref s] := H150.caload (((Fa.ext E1).ext E2).other W0 had) d_cut_189 (i := 1) rfl rfl
              obtain ⟨hs1, W1, H152⟩ := H151.castore (by simp) F2 d_cut_190 (i := 1) rfl (by simp) (hw := (nar_c r1.1 r1.2))
              have H152 : Hr x b_cut Z EL1 2 11 hs1 [d, s] 191 #[.val (.ref a), .val (.int k)] [.ref d, .ref s, .ref s] := H152
              have F2 : Ar Z hs1 d .char [.int c0, .int c1, .int 0, .int 0, .int 0, .int 0, .int 0] := F2.set W1
              have H153 : Hr x b_cut Z EL1 2 11 hs1 [d, s] 192 #[.val (.ref a), .val (.int k)] [.ref d, .ref d, .ref s, .ref s] := H152.dup d_cut_191
              have H154 : Hr x b_cut Z EL1 2 11 hs1 [d, s] 193 #[.val (.ref a), .val (.int k)] [.int (2 : Int32), .ref d, .ref d, .ref s, .ref s] := H153.iconst d_cut_192
              have H155 : Hr x b_cut Z EL1 2 11 hs1 [d, s] 194 #[.val (.ref a), .val (.int k)] [.ref a, .int (2 : Int32), .ref d, .ref d, .ref s, .ref s] := H154.aloadN d_cut_193
              have H156 : Hr x b_cut Z EL1 2 11 hs1 [d, s] 195 #[.val (.ref a), .val (.int k)] [.int (2 : Int32), .ref a, .int (2 : Int32), .ref d, .ref d, .ref s, .ref s] := H155.iconst d_cut_194
              have H157 : Hr x b_cut Z EL1 2 11 hs1 [d, s] 196 #[.val (.ref a), .val (.int k)] [.int c2, .int (2 : Int32), .ref d, .ref d, .ref s, .ref s] := H156.caload ((((Fa.ext E1).ext E2).other W0 had).other W1 had) d_cut_195 (i := 2) rfl rfl
              obtain ⟨hs2, W2, H158⟩ := H157.castore (by simp) F2 d_cut_196 (i := 2) rfl (by simp) (hw := (nar_c r2.1 r2.2))
              have H158 : Hr x b_cut Z EL1 2 11 hs2 [d, s] 197 #[.val (.ref a), .val (.int k)] [.ref d, .ref s, .ref s] := H158
              have F2 : Ar Z hs2 d .char [.int c0, .int c1, .int c2, .int 0, .int 0, .int 0, .int 0] := F2.set W2
              have H159 : Hr x b_cut Z EL1 2 11 hs2 [d, s] 198 #[.val (.ref a), .val (.int k)] [.ref d, .ref d, .ref s, .ref s] := H158.dup d_cut_197
              have H160 : Hr x b_cut Z EL1 2 11 hs2 [d, s] 199 #[.val (.ref a), .val (.int k)] [.int (3 : Int32), .ref d, .ref d, .ref s, .ref s] := H159.iconst d_cut_198
              have H161 : Hr x b_cut Z EL1 2 11 hs2 [d, s] 200 #[.val (.ref a), .val (.int k)] [.ref a, .int (3 : Int32), .ref d, .ref d, .ref s, .ref s] := H160.aloadN d_cut_199
              have H162 : Hr x b_cut Z EL1 2 11 hs2 [d, s] 201 #[.val (.ref a), .val (.int k)] [.int (3 : Int32), .ref a, .int (3 : Int32), .ref d, .ref d, .ref s, .ref s] := H161.iconst d_cut_200
              have H163 : Hr x b_cut Z EL1 2 11 hs2 [d, s] 202 #[.val (.ref a), .val (.int k)] [.int c3, .int (3 : Int32), .ref d, .ref d, .ref s, .ref s] := H162.caload (((((Fa.ext E1).ext E2).other W0 had).other W1 had).other W2 had) d_cut_201 (i := 3) rfl rfl
              obtain ⟨hs3, W3, H164⟩ := H163.castore (by simp) F2 d_cut_202 (i := 3) rfl (by simp) (hw := (nar_c r3.1 r3.2))
              have H164 : Hr x b_cut Z EL1 2 11 hs3 [d, s] 203 #[.val (.ref a), .val (.int k)] [.ref d, .ref s, .ref s] := H164
              have F2 : Ar Z hs3 d .char [.int c0, .int c1, .int c2, .int c3, .int 0, .int 0, .int 0] := F2.set W3
              have H165 : Hr x b_cut Z EL1 2 11 hs3 [d, s] 204 #[.val (.ref a), .val (.int k)] [.ref d, .ref d, .ref s, .ref s] := H164.dup d_cut_203
              have H166 : Hr x b_cut Z EL1 2 11 hs3 [d, s] 205 #[.val (.ref a), .val (.int k)] [.int (4 : Int32), .ref d, .ref d, .ref s, .ref s] := H165.iconst d_cut_204
              have H167 : Hr x b_cut Z EL1 2 11 hs3 [d, s] 206 #[.val (.ref a), .val (.int k)] [.ref a, .int (4 : Int32), .ref d, .ref d, .ref s, .ref s] := H166.aloadN d_cut_205
              have H168 : Hr x b_cut Z EL1 2 11 hs3 [d, s] 207 #[.val (.ref a), .val (.int k)] [.int (4 : Int32), .ref a, .int (4 : Int32), .ref d, .ref d, .ref s, .ref s] := H167.iconst d_cut_206
              have H169 : Hr x b_cut Z EL1 2 11 hs3 [d, s] 208 #[.val (.ref a), .val (.int k)] [.int c4, .int (4 : Int32), .ref d, .ref d, .ref s, .ref s] := H168.caload ((((((Fa.ext E1).ext E2).other W0 had).other W1 had).other W2 had).other W3 had) d_cut_207 (i := 4) rfl rfl
              obtain ⟨hs4, W4, H170⟩ := H169.castore (by simp) F2 d_cut_208 (i := 4) rfl (by simp) (hw := (nar_c r4.1 r4.2))
              have H170 : Hr x b_cut Z EL1 2 11 hs4 [d, s] 209 #[.val (.ref a), .val (.int k)] [.ref d, .ref s, .ref s] := H170
              have F2 : Ar Z hs4 d .char [.int c0, .int c1, .int c2, .int c3, .int c4, .int 0, .int 0] := F2.set W4
              have H171 : Hr x b_cut Z EL1 2 11 hs4 [d, s] 210 #[.val (.ref a), .val (.int k)] [.ref d, .ref d, .ref s, .ref s] := H170.dup d_cut_209
              have H172 : Hr x b_cut Z EL1 2 11 hs4 [d, s] 211 #[.val (.ref a), .val (.int k)] [.int (5 : Int32), .ref d, .ref d, .ref s, .ref s] := H171.iconst d_cut_210
              have H173 : Hr x b_cut Z EL1 2 11 hs4 [d, s] 212 #[.val (.ref a), .val (.int k)] [.ref a, .int (5 : Int32), .ref d, .ref d, .ref s, .ref s] := H172.aloadN d_cut_211
              have H174 : Hr x b_cut Z EL1 2 11 hs4 [d, s] 213 #[.val (.ref a), .val (.int k)] [.int (5 : Int32), .ref a, .int (5 : Int32), .ref d, .ref d, .ref s, .ref s] := H173.iconst d_cut_212
              have H175 : Hr x b_cut Z EL1 2 11 hs4 [d, s] 214 #[.val (.ref a), .val (.int k)] [.int c5, .int (5 : Int32), .ref d, .ref d, .ref s, .ref s] := H174.caload (((((((Fa.ext E1).ext E2).other W0 had).other W1 had).other W2 had).other W3 had).other W4 had) d_cut_213 (i := 5) rfl rfl
              obtain ⟨hs5, W5, H176⟩ := H175.castore (by simp) F2 d_cut_214 (i := 5) rfl (by simp) (hw := (nar_c r5.1 r5.2))
              have H176 : Hr x b_cut Z EL1 2 11 hs5 [d, s] 215 #[.val (.ref a), .val (.int k)] [.ref d, .ref s, .ref s] := H176
              have F2 : Ar Z hs5 d .char [.int c0, .int c1, .int c2, .int c3, .int c4, .int c5, .int 0] := F2.set W5
              have H177 : Hr x b_cut Z EL1 2 11 hs5 [d, s] 216 #[.val (.ref a), .val (.int k)] [.ref d, .ref d, .ref s, .ref s] := H176.dup d_cut_215
              have H178 : Hr x b_cut Z EL1 2 11 hs5 [d, s] 218 #[.val (.ref a), .val (.int k)] [.int (6 : Int32), .ref d, .ref d, .ref s, .ref s] := H177.bipush d_cut_216
              have H179 : Hr x b_cut Z EL1 2 11 hs5 [d, s] 219 #[.val (.ref a), .val (.int k)] [.ref a, .int (6 : Int32), .ref d, .ref d, .ref s, .ref s] := H178.aloadN d_cut_218
              have H180 : Hr x b_cut Z EL1 2 11 hs5 [d, s] 221 #[.val (.ref a), .val (.int k)] [.int (6 : Int32), .ref a, .int (6 : Int32), .ref d, .ref d, .ref s, .ref s] := H179.bipush d_cut_219
              have H181 : Hr x b_cut Z EL1 2 11 hs5 [d, s] 222 #[.val (.ref a), .val (.int k)] [.int c6, .int (6 : Int32), .ref d, .ref d, .ref s, .ref s] := H180.caload ((((((((Fa.ext E1).ext E2).other W0 had).other W1 had).other W2 had).other W3 had).other W4 had).other W5 had) d_cut_221 (i := 6) rfl rfl
              obtain ⟨hs6, W6, H182⟩ := H181.castore (by simp) F2 d_cut_222 (i := 6) rfl (by simp) (hw := (nar_c r6.1 r6.2))
              have H182 : Hr x b_cut Z EL1 2 11 hs6 [d, s] 223 #[.val (.ref a), .val (.int k)] [.ref d, .ref s, .ref s] := H182
              have F2 : Ar Z hs6 d .char [.int c0, .int c1, .int c2, .int c3, .int c4, .int c5, .int c6] := F2.set W6
              have hsd : @Ne Nat s d := by have := exa_lt X1; omega
              have Fc : Fld Z h1 s "java/lang/String" "coder" "B" (.int 0) := D1 (Or.inr (w32 hw)) (ty := .byte) (by decide)
              have Fv : Fld Z h1 s "java/lang/String" "value" "[B" .null := D1 (Or.inr (w34 hw)) (ty := .array .byte) (by decide)
              obtain ⟨_, hE, _, ⟨rfl, rfl, t, Fs⟩, KE, H183⟩ := H182.callI (argsL := [.ref d]) (rest := [.ref s]) (Wr := 1) (a := s) (ct_sini1 hw x.l x.nar x.kn hnar hs6 s d [c0, c1, c2, c3, c4, c5, c6] ((((((((X1.ext E2).wr W0).wr W1).wr W2).wr W3).wr W4).wr W5).wr W6) ((((((((Fc.ext E2).other W0 (Or.inl hsd)).other W1 (Or.inl hsd)).other W2 (Or.inl hsd)).other W3 (Or.inl hsd)).other W4 (Or.inl hsd)).other W5 (Or.inl hsd)).other W6 (Or.inl hsd)) ((((((((Fv.ext E2).other W0 (Or.inl hsd)).other W1 (Or.inl hsd)).other W2 (Or.inl hsd)).other W3 (Or.inl hsd)).other W4 (Or.inl hsd)).other W5 (Or.inl hsd)).other W6 (Or.inl hsd)) F2 (by simp) (hcsC r0 (hcsC r1 (hcsC r2 (hcsC r3 (hcsC r4 (hcsC r5 (hcsC r6 hcs0))))))) cz O hcz) (sub1 (by simp)) (w9 hw) (w10 hw) (w8 hw) (w11 hw) d_cut_223 pd_sini1 rfl (hf := by first | decide | (simp [b_cut, Bx.R]; done) | (simp [b_cut, Bx.R]; omega)) (hl := by first | decide | (simp [b_cut, Bx.R]; done) | (simp [b_cut, Bx.R]; omega)) (hc := by first | decide | (simp [b_cut, Bx.R]; done) | (simp [b_cut, Bx.R]; omega)) (hs := by first | decide | (simp [b_cut, Bx.R]; done) | (simp [b_cut, Bx.R]; omega))
              have H183 : Hr x b_cut Z EL1 6 26 hE [d, s] 226 #[.val (.ref a), .val (.int k)] [.ref s] := H183
              exact H183.finA d_cut_226 ⟨s, t, _, rfl, rfl, Fs⟩ sub0
            · have z183 := q5
              have H184 : Hr x b_cut Z EL1 0 0 h0 [] 227 #[.val (.ref a), .val (.int k)] [] := H135.icmpT d_cut_168 (XT.ii_ne_t q5)
              have H185 : Hr x b_cut Z EL1 0 0 h0 [] 228 #[.val (.ref a), .val (.int k)] [.int k] := H184.iloadN d_cut_227
              have H186 : Hr x b_cut Z EL1 0 0 h0 [] 230 #[.val (.ref a), .val (.int k)] [.int (6 : Int32), .int k] := H185.bipush d_cut_228
              by_cases q6 : k = 6
              · have z186 := q6
                have H187 : Hr x b_cut Z EL1 0 0 h0 [] 233 #[.val (.ref a), .val (.int k)] [] := H186.icmpF d_cut_230 (XT.ii_ne_f q6)
                obtain ⟨h1, E1, ⟨X1, D1, U1⟩, H188⟩ := H187.new (w6 hw) (w7 hw) (w8 hw) d_cut_233 (by first | decide | (simp [b_cut, Bx.R]; done) | (simp [b_cut, Bx.R]; omega)) (by first | decide | (simp [b_cut, Bx.R]; done) | (simp [b_cut, Bx.R]; omega))
                obtain ⟨s, g_s⟩ : ∃ z, z = h0.size := ⟨_, rfl⟩
                rw [← g_s] at X1 D1 U1 H188
                have H188 : Hr x b_cut Z EL1 1 4 h1 [s] 236 #[.val (.ref a), .val (.int k)] [.ref s] := H188
                have H189 : Hr x b_cut Z EL1 1 4 h1 [s] 237 #[.val (.ref a), .val (.int k)] [.ref s, .ref s] := H188.dup d_cut_236
                have H190 : Hr x b_cut Z EL1 1 4 h1 [s] 239 #[.val (.ref a), .val (.int k)] [.int (8 : Int32), .ref s, .ref s] := H189.bipush d_cut_237
                obtain ⟨h2, E2, F2, H191⟩ := H190.newarray (aty := .char) (cap := 8) (w0 hw) d_cut_239 (by decide) (by decide) (by decide) (by first | decide | (simp [b_cut, Bx.R]; done) | (simp [b_cut, Bx.R]; omega)) (by first | decide | (simp [b_cut, Bx.R]; done) | (simp [b_cut, Bx.R]; omega))
                obtain ⟨d, g_d⟩ : ∃ z, z = h1.size := ⟨_, rfl⟩
                rw [← g_d] at F2 H191
                have F2 : Ar Z h2 d .char (List.replicate 8 (.int 0)) := F2
                have H191 : Hr x b_cut Z EL1 2 12 h2 [d, s] 241 #[.val (.ref a), .val (.int k)] [.ref d, .ref s, .ref s] := H191
                have had : @Ne Nat a d := by have := Fa.lt; have := E1.1; omega
                have H192 : Hr x b_cut Z EL1 2 12 h2 [d, s] 242 #[.val (.ref a), .val (.int k)] [.ref d, .ref d, .ref s, .ref s] := H191.dup d_cut_241
                have H193 : Hr x b_cut Z EL1 2 12 h2 [d, s] 243 #[.val (.ref a), .val (.int k)] [.int (0 : Int32), .ref d, .ref d, .ref s, .ref s] := H192.iconst d_cut_242
                have H194 : Hr x b_cut Z EL1 2 12 h2 [d, s] 244 #[.val (.ref a), .val (.int k)] [.ref a, .int (0 : Int32), .ref d, .ref d, .ref s, .ref s] := H193.aloadN d_cut_243
                have H195 : Hr x b_cut Z EL1 2 12 h2 [d, s] 245 #[.val (.ref a), .val (.int k)] [.int (0 : Int32), .ref a, .int (0 : Int32), .ref d, .ref d, .ref s, .ref s] := H194.iconst d_cut_244
                have H196 : Hr x b_cut Z EL1 2 12 h2 [d, s] 246 #[.val (.ref a), .val (.int k)] [.int c0, .int (0 : Int32), .ref d, .ref d, .ref s, .ref s] := H195.caload ((Fa.ext E1).ext E2) d_cut_245 (i := 0) rfl rfl
                obtain ⟨hs0, W0, H197⟩ := H196.castore (by simp) F2 d_cut_246 (i := 0) rfl (by simp) (hw := (nar_c r0.1 r0.2))
                have H197 : Hr x b_cut Z EL1 2 12 hs0 [d, s] 247 #[.val (.ref a), .val (.int k)] [.ref d, .ref s, .ref s] := H197
                have F2 : Ar Z hs0 d .char [.int c0, .int 0, .int 0, .int 0, .int 0, .int 0, .int 0, .int 0] := F2.set W0
                have H198 : Hr x b_cut Z EL1 2 12 hs0 [d, s] 248 #[.val (.ref a), .val (.int k)] [.ref d, .ref d, .ref s, .ref s] := H197.dup d_cut_247
                have H199 : Hr x b_cut Z EL1 2 12 hs0 [d, s] 249 #[.val (.ref a), .val (.int k)] [.int (1 : Int32), .ref d, .ref d, .ref s, .ref s] := H198.iconst d_cut_248
                have H200 : Hr x b_cut Z EL1 2 12 hs0 [d, s] 250 #[.val (.ref a), .val (.int k)] [.ref a, .int (1 : Int32), .ref d, .ref d, .ref s, .ref s] := H199.aloadN d_cut_249
                have H201 : Hr x b_cut Z EL1 2 12 hs0 [d, s] 251 #[.val (.ref a), .val (.int k)] [.int (1 : Int32), .ref a, .int (1 : Int32), .ref d, .ref d, .ref s, .ref s] := H200.iconst d_cut_250
                have H202 : Hr x b_cut Z EL1 2 12 hs0 [d, s] 252 #[.val (.ref a), .val (.int k)] [.int c1, .int (1 : Int32), .ref d, .ref d, .ref s, .ref s] := H201.caload (((Fa.ext E1).ext E2).other W0 had) d_cut_251 (i := 1) rfl rfl
                obtain ⟨hs1, W1, H203⟩ := H202.castore (by simp) F2 d_cut_252 (i := 1) rfl (by simp) (hw := (nar_c r1.1 r1.2))
                have H203 : Hr x b_cut Z EL1 2 12 hs1 [d, s] 253 #[.val (.ref a), .val (.int k)] [.ref d, .ref s, .ref s] := H203
                have F2 : Ar Z hs1 d .char [.int c0, .int c1, .int 0, .int 0, .int 0, .int 0, .int 0, .int 0] := F2.set W1
                have H204 : Hr x b_cut Z EL1 2 12 hs1 [d, s] 254 #[.val (.ref a), .val (.int k)] [.ref d, .ref d, .ref s, .ref s] := H203.dup d_cut_253
                have H205 : Hr x b_cut Z EL1 2 12 hs1 [d, s] 255 #[.val (.ref a), .val (.int k)] [.int (2 : Int32), .ref d, .ref d, .ref s, .ref s] := H204.iconst d_cut_254
                have H206 : Hr x b_cut Z EL1 2 12 hs1 [d, s] 256 #[.val (.ref a), .val (.int k)] [.ref a, .int (2 : Int32), .ref d, .ref d, .ref s, .ref s] := H205.aloadN d_cut_255
                have H207 : Hr x b_cut Z EL1 2 12 hs1 [d, s] 257 #[.val (.ref a), .val (.int k)] [.int (2 : Int32), .ref a, .int (2 : Int32), .ref d, .ref d, .ref s, .ref s] := H206.iconst d_cut_256
                have H208 : Hr x b_cut Z EL1 2 12 hs1 [d, s] 258 #[.val (.ref a), .val (.int k)] [.int c2, .int (2 : Int32), .ref d, .ref d, .ref s, .ref s] := H207.caload ((((Fa.ext E1).ext E2).other W0 had).other W1 had) d_cut_257 (i := 2) rfl rfl
                obtain ⟨hs2, W2, H209⟩ := H208.castore (by simp) F2 d_cut_258 (i := 2) rfl (by simp) (hw := (nar_c r2.1 r2.2))
                have H209 : Hr x b_cut Z EL1 2 12 hs2 [d, s] 259 #[.val (.ref a), .val (.int k)] [.ref d, .ref s, .ref s] := H209
                have F2 : Ar Z hs2 d .char [.int c0, .int c1, .int c2, .int 0, .int 0, .int 0, .int 0, .int 0] := F2.set W2
                have H210 : Hr x b_cut Z EL1 2 12 hs2 [d, s] 260 #[.val (.ref a), .val (.int k)] [.ref d, .ref d, .ref s, .ref s] := H209.dup d_cut_259
                have H211 : Hr x b_cut Z EL1 2 12 hs2 [d, s] 261 #[.val (.ref a), .val (.int k)] [.int (3 : Int32), .ref d, .ref d, .ref s, .ref s] := H210.iconst d_cut_260
                have H212 : Hr x b_cut Z EL1 2 12 hs2 [d, s] 262 #[.val (.ref a), .val (.int k)] [.ref a, .int (3 : Int32), .ref d, .ref d, .ref s, .ref s] := H211.aloadN d_cut_261
                have H213 : Hr x b_cut Z EL1 2 12 hs2 [d, s] 263 #[.val (.ref a), .val (.int k)] [.int (3 : Int32), .ref a, .int (3 : Int32), .ref d, .ref d, .ref s, .ref s] := H212.iconst d_cut_262
                have H214 : Hr x b_cut Z EL1 2 12 hs2 [d, s] 264 #[.val (.ref a), .val (.int k)] [.int c3, .int (3 : Int32), .ref d, .ref d, .ref s, .ref s] := H213.caload (((((Fa.ext E1).ext E2).other W0 had).other W1 had).other W2 had) d_cut_263 (i := 3) rfl rfl
                obtain ⟨hs3, W3, H215⟩ := H214.castore (by simp) F2 d_cut_264 (i := 3) rfl (by simp) (hw := (nar_c r3.1 r3.2))
                have H215 : Hr x b_cut Z EL1 2 12 hs3 [d, s] 265 #[.val (.ref a), .val (.int k)] [.ref d, .ref s, .ref s] := H215
                have F2 : Ar Z hs3 d .char [.int c0, .int c1, .int c2, .int c3, .int 0, .int 0, .int 0, .int 0] := F2.set W3
                have H216 : Hr x b_cut Z EL1 2 12 hs3 [d, s] 266 #[.val (.ref a), .val (.int k)] [.ref d, .ref d, .ref s, .ref s] := H215.dup d_cut_265
                have H217 : Hr x b_cut Z EL1 2 12 hs3 [d, s] 267 #[.val (.ref a), .val (.int k)] [.int (4 : Int32), .ref d, .ref d, .ref s, .ref s] := H216.iconst d_cut_266
                have H218 : Hr x b_cut Z EL1 2 12 hs3 [d, s] 268 #[.val (.ref a), .val (.int k)] [.ref a, .int (4 : Int32), .ref d, .ref d, .ref s, .ref s] := H217.aloadN d_cut_267
                have H219 : Hr x b_cut Z EL1 2 12 hs3 [d, s] 269 #[.val (.ref a), .val (.int k)] [.int (4 : Int32), .ref a, .int (4 : Int32), .ref d, .ref d, .ref s, .ref s] := H218.iconst d_cut_268
                have H220 : Hr x b_cut Z EL1 2 12 hs3 [d, s] 270 #[.val (.ref a), .val (.int k)] [.int c4, .int (4 : Int32), .ref d, .ref d, .ref s, .ref s] := H219.caload ((((((Fa.ext E1).ext E2).other W0 had).other W1 had).other W2 had).other W3 had) d_cut_269 (i := 4) rfl rfl
                obtain ⟨hs4, W4, H221⟩ := H220.castore (by simp) F2 d_cut_270 (i := 4) rfl (by simp) (hw := (nar_c r4.1 r4.2))
                have H221 : Hr x b_cut Z EL1 2 12 hs4 [d, s] 271 #[.val (.ref a), .val (.int k)] [.ref d, .ref s, .ref s] := H221
                have F2 : Ar Z hs4 d .char [.int c0, .int c1, .int c2, .int c3, .int c4, .int 0, .int 0, .int 0] := F2.set W4
                have H222 : Hr x b_cut Z EL1 2 12 hs4 [d, s] 272 #[.val (.ref a), .val (.int k)] [.ref d, .ref d, .ref s, .ref s] := H221.dup d_cut_271
                have H223 : Hr x b_cut Z EL1 2 12 hs4 [d, s] 273 #[.val (.ref a), .val (.int k)] [.int (5 : Int32), .ref d, .ref d, .ref s, .ref s] := H222.iconst d_cut_272
                have H224 : Hr x b_cut Z EL1 2 12 hs4 [d, s] 274 #[.val (.ref a), .val (.int k)] [.ref a, .int (5 : Int32), .ref d, .ref d, .ref s, .ref s] := H223.aloadN d_cut_273
                have H225 : Hr x b_cut Z EL1 2 12 hs4 [d, s] 275 #[.val (.ref a), .val (.int k)] [.int (5 : Int32), .ref a, .int (5 : Int32), .ref d, .ref d, .ref s, .ref s] := H224.iconst d_cut_274
                have H226 : Hr x b_cut Z EL1 2 12 hs4 [d, s] 276 #[.val (.ref a), .val (.int k)] [.int c5, .int (5 : Int32), .ref d, .ref d, .ref s, .ref s] := H225.caload (((((((Fa.ext E1).ext E2).other W0 had).other W1 had).other W2 had).other W3 had).other W4 had) d_cut_275 (i := 5) rfl rfl
                obtain ⟨hs5, W5, H227⟩ := H226.castore (by simp) F2 d_cut_276 (i := 5) rfl (by simp) (hw := (nar_c r5.1 r5.2))
                have H227 : Hr x b_cut Z EL1 2 12 hs5 [d, s] 277 #[.val (.ref a), .val (.int k)] [.ref d, .ref s, .ref s] := H227
                have F2 : Ar Z hs5 d .char [.int c0, .int c1, .int c2, .int c3, .int c4, .int c5, .int 0, .int 0] := F2.set W5
                have H228 : Hr x b_cut Z EL1 2 12 hs5 [d, s] 278 #[.val (.ref a), .val (.int k)] [.ref d, .ref d, .ref s, .ref s] := H227.dup d_cut_277
                have H229 : Hr x b_cut Z EL1 2 12 hs5 [d, s] 280 #[.val (.ref a), .val (.int k)] [.int (6 : Int32), .ref d, .ref d, .ref s, .ref s] := H228.bipush d_cut_278
                have H230 : Hr x b_cut Z EL1 2 12 hs5 [d, s] 281 #[.val (.ref a), .val (.int k)] [.ref a, .int (6 : Int32), .ref d, .ref d, .ref s, .ref s] := H229.aloadN d_cut_280
                have H231 : Hr x b_cut Z EL1 2 12 hs5 [d, s] 283 #[.val (.ref a), .val (.int k)] [.int (6 : Int32), .ref a, .int (6 : Int32), .ref d, .ref d, .ref s, .ref s] := H230.bipush d_cut_281
                have H232 : Hr x b_cut Z EL1 2 12 hs5 [d, s] 284 #[.val (.ref a), .val (.int k)] [.int c6, .int (6 : Int32), .ref d, .ref d, .ref s, .ref s] := H231.caload ((((((((Fa.ext E1).ext E2).other W0 had).other W1 had).other W2 had).other W3 had).other W4 had).other W5 had) d_cut_283 (i := 6) rfl rfl
                obtain ⟨hs6, W6, H233⟩ := H232.castore (by simp) F2 d_cut_284 (i := 6) rfl (by simp) (hw := (nar_c r6.1 r6.2))
                have H233 : Hr x b_cut Z EL1 2 12 hs6 [d, s] 285 #[.val (.ref a), .val (.int k)] [.ref d, .ref s, .ref s] := H233
                have F2 : Ar Z hs6 d .char [.int c0, .int c1, .int c2, .int c3, .int c4, .int c5, .int c6, .int 0] := F2.set W6
                have H234 : Hr x b_cut Z EL1 2 12 hs6 [d, s] 286 #[.val (.ref a), .val (.int k)] [.ref d, .ref d, .ref s, .ref s] := H233.dup d_cut_285
                have H235 : Hr x b_cut Z EL1 2 12 hs6 [d, s] 288 #[.val (.ref a), .val (.int k)] [.int (7 : Int32), .ref d, .ref d, .ref s, .ref s] := H234.bipush d_cut_286
                have H236 : Hr x b_cut Z EL1 2 12 hs6 [d, s] 289 #[.val (.ref a), .val (.int k)] [.ref a, .int (7 : Int32), .ref d, .ref d, .ref s, .ref s] := H235.aloadN d_cut_288
                have H237 : Hr x b_cut Z EL1 2 12 hs6 [d, s] 291 #[.val (.ref a), .val (.int k)] [.int (7 : Int32), .ref a, .int (7 : Int32), .ref d, .ref d, .ref s, .ref s] := H236.bipush d_cut_289
                have H238 : Hr x b_cut Z EL1 2 12 hs6 [d, s] 292 #[.val (.ref a), .val (.int k)] [.int c7, .int (7 : Int32), .ref d, .ref d, .ref s, .ref s] := H237.caload (((((((((Fa.ext E1).ext E2).other W0 had).other W1 had).other W2 had).other W3 had).other W4 had).other W5 had).other W6 had) d_cut_291 (i := 7) rfl rfl
                obtain ⟨hs7, W7, H239⟩ := H238.castore (by simp) F2 d_cut_292 (i := 7) rfl (by simp) (hw := (nar_c r7.1 r7.2))
                have H239 : Hr x b_cut Z EL1 2 12 hs7 [d, s] 293 #[.val (.ref a), .val (.int k)] [.ref d, .ref s, .ref s] := H239
                have F2 : Ar Z hs7 d .char [.int c0, .int c1, .int c2, .int c3, .int c4, .int c5, .int c6, .int c7] := F2.set W7
                have hsd : @Ne Nat s d := by have := exa_lt X1; omega
                have Fc : Fld Z h1 s "java/lang/String" "coder" "B" (.int 0) := D1 (Or.inr (w32 hw)) (ty := .byte) (by decide)
                have Fv : Fld Z h1 s "java/lang/String" "value" "[B" .null := D1 (Or.inr (w34 hw)) (ty := .array .byte) (by decide)
                obtain ⟨_, hE, _, ⟨rfl, rfl, t, Fs⟩, KE, H240⟩ := H239.callI (argsL := [.ref d]) (rest := [.ref s]) (Wr := 1) (a := s) (ct_sini1 hw x.l x.nar x.kn hnar hs7 s d [c0, c1, c2, c3, c4, c5, c6, c7] (((((((((X1.ext E2).wr W0).wr W1).wr W2).wr W3).wr W4).wr W5).wr W6).wr W7) (((((((((Fc.ext E2).other W0 (Or.inl hsd)).other W1 (Or.inl hsd)).other W2 (Or.inl hsd)).other W3 (Or.inl hsd)).other W4 (Or.inl hsd)).other W5 (Or.inl hsd)).other W6 (Or.inl hsd)).other W7 (Or.inl hsd)) (((((((((Fv.ext E2).other W0 (Or.inl hsd)).other W1 (Or.inl hsd)).other W2 (Or.inl hsd)).other W3 (Or.inl hsd)).other W4 (Or.inl hsd)).other W5 (Or.inl hsd)).other W6 (Or.inl hsd)).other W7 (Or.inl hsd)) F2 (by simp) (hcsC r0 (hcsC r1 (hcsC r2 (hcsC r3 (hcsC r4 (hcsC r5 (hcsC r6 (hcsC r7 hcs0)))))))) cz O hcz) (sub1 (by simp)) (w9 hw) (w10 hw) (w8 hw) (w11 hw) d_cut_293 pd_sini1 rfl (hf := by first | decide | (simp [b_cut, Bx.R]; done) | (simp [b_cut, Bx.R]; omega)) (hl := by first | decide | (simp [b_cut, Bx.R]; done) | (simp [b_cut, Bx.R]; omega)) (hc := by first | decide | (simp [b_cut, Bx.R]; done) | (simp [b_cut, Bx.R]; omega)) (hs := by first | decide | (simp [b_cut, Bx.R]; done) | (simp [b_cut, Bx.R]; omega))
                have H240 : Hr x b_cut Z EL1 6 28 hE [d, s] 296 #[.val (.ref a), .val (.int k)] [.ref s] := H240
                exact H240.finA d_cut_296 ⟨s, t, _, rfl, rfl, Fs⟩ sub0
              · have z240 := q6
                have H241 : Hr x b_cut Z EL1 0 0 h0 [] 297 #[.val (.ref a), .val (.int k)] [] := H186.icmpT d_cut_230 (XT.ii_ne_t q6)
                obtain ⟨h1, E1, ⟨X1, D1, U1⟩, H242⟩ := H241.new (w6 hw) (w7 hw) (w8 hw) d_cut_297 (by first | decide | (simp [b_cut, Bx.R]; done) | (simp [b_cut, Bx.R]; omega)) (by first | decide | (simp [b_cut, Bx.R]; done) | (simp [b_cut, Bx.R]; omega))
                obtain ⟨s, g_s⟩ : ∃ z, z = h0.size := ⟨_, rfl⟩
                rw [← g_s] at X1 D1 U1 H242
                have H242 : Hr x b_cut Z EL1 1 4 h1 [s] 300 #[.val (.ref a), .val (.int k)] [.ref s] := H242
                have H243 : Hr x b_cut Z EL1 1 4 h1 [s] 301 #[.val (.ref a), .val (.int k)] [.ref s, .ref s] := H242.dup d_cut_300
                have H244 : Hr x b_cut Z EL1 1 4 h1 [s] 303 #[.val (.ref a), .val (.int k)] [.int (9 : Int32), .ref s, .ref s] := H243.bipush d_cut_301
                obtain ⟨h2, E2, F2, H245⟩ := H244.newarray (aty := .char) (cap := 9) (w0 hw) d_cut_303 (by decide) (by decide) (by decide) (by first | decide | (simp [b_cut, Bx.R]; done) | (simp [b_cut, Bx.R]; omega)) (by first | decide | (simp [b_cut, Bx.R]; done) | (simp [b_cut, Bx.R]; omega))
                obtain ⟨d, g_d⟩ : ∃ z, z = h1.size := ⟨_, rfl⟩
                rw [← g_d] at F2 H245
                have F2 : Ar Z h2 d .char (List.replicate 9 (.int 0)) := F2
                have H245 : Hr x b_cut Z EL1 2 13 h2 [d, s] 305 #[.val (.ref a), .val (.int k)] [.ref d, .ref s, .ref s] := H245
                have had : @Ne Nat a d := by have := Fa.lt; have := E1.1; omega
                have H246 : Hr x b_cut Z EL1 2 13 h2 [d, s] 306 #[.val (.ref a), .val (.int k)] [.ref d, .ref d, .ref s, .ref s] := H245.dup d_cut_305
                have H247 : Hr x b_cut Z EL1 2 13 h2 [d, s] 307 #[.val (.ref a), .val (.int k)] [.int (0 : Int32), .ref d, .ref d, .ref s, .ref s] := H246.iconst d_cut_306
                have H248 : Hr x b_cut Z EL1 2 13 h2 [d, s] 308 #[.val (.ref a), .val (.int k)] [.ref a, .int (0 : Int32), .ref d, .ref d, .ref s, .ref s] := H247.aloadN d_cut_307
                have H249 : Hr x b_cut Z EL1 2 13 h2 [d, s] 309 #[.val (.ref a), .val (.int k)] [.int (0 : Int32), .ref a, .int (0 : Int32), .ref d, .ref d, .ref s, .ref s] := H248.iconst d_cut_308
                have H250 : Hr x b_cut Z EL1 2 13 h2 [d, s] 310 #[.val (.ref a), .val (.int k)] [.int c0, .int (0 : Int32), .ref d, .ref d, .ref s, .ref s] := H249.caload ((Fa.ext E1).ext E2) d_cut_309 (i := 0) rfl rfl
                obtain ⟨hs0, W0, H251⟩ := H250.castore (by simp) F2 d_cut_310 (i := 0) rfl (by simp) (hw := (nar_c r0.1 r0.2))
                have H251 : Hr x b_cut Z EL1 2 13 hs0 [d, s] 311 #[.val (.ref a), .val (.int k)] [.ref d, .ref s, .ref s] := H251
                have F2 : Ar Z hs0 d .char [.int c0, .int 0, .int 0, .int 0, .int 0, .int 0, .int 0, .int 0, .int 0] := F2.set W0
                have H252 : Hr x b_cut Z EL1 2 13 hs0 [d, s] 312 #[.val (.ref a), .val (.int k)] [.ref d, .ref d, .ref s, .ref s] := H251.dup d_cut_311
                have H253 : Hr x b_cut Z EL1 2 13 hs0 [d, s] 313 #[.val (.ref a), .val (.int k)] [.int (1 : Int32), .ref d, .ref d, .ref s, .ref s] := H252.iconst d_cut_312
                have H254 : Hr x b_cut Z EL1 2 13 hs0 [d, s] 314 #[.val (.ref a), .val (.int k)] [.ref a, .int (1 : Int32), .ref d, .ref d, .ref s, .ref s] := H253.aloadN d_cut_313
                have H255 : Hr x b_cut Z EL1 2 13 hs0 [d, s] 315 #[.val (.ref a), .val (.int k)] [.int (1 : Int32), .ref a, .int (1 : Int32), .ref d, .ref d, .ref s, .ref s] := H254.iconst d_cut_314
                have H256 : Hr x b_cut Z EL1 2 13 hs0 [d, s] 316 #[.val (.ref a), .val (.int k)] [.int c1, .int (1 : Int32), .ref d, .ref d, .ref s, .ref s] := H255.caload (((Fa.ext E1).ext E2).other W0 had) d_cut_315 (i := 1) rfl rfl
                obtain ⟨hs1, W1, H257⟩ := H256.castore (by simp) F2 d_cut_316 (i := 1) rfl (by simp) (hw := (nar_c r1.1 r1.2))
                have H257 : Hr x b_cut Z EL1 2 13 hs1 [d, s] 317 #[.val (.ref a), .val (.int k)] [.ref d, .ref s, .ref s] := H257
                have F2 : Ar Z hs1 d .char [.int c0, .int c1, .int 0, .int 0, .int 0, .int 0, .int 0, .int 0, .int 0] := F2.set W1
                have H258 : Hr x b_cut Z EL1 2 13 hs1 [d, s] 318 #[.val (.ref a), .val (.int k)] [.ref d, .ref d, .ref s, .ref s] := H257.dup d_cut_317
                have H259 : Hr x b_cut Z EL1 2 13 hs1 [d, s] 319 #[.val (.ref a), .val (.int k)] [.int (2 : Int32), .ref d, .ref d, .ref s, .ref s] := H258.iconst d_cut_318
                have H260 : Hr x b_cut Z EL1 2 13 hs1 [d, s] 320 #[.val (.ref a), .val (.int k)] [.ref a, .int (2 : Int32), .ref d, .ref d, .ref s, .ref s] := H259.aloadN d_cut_319
                have H261 : Hr x b_cut Z EL1 2 13 hs1 [d, s] 321 #[.val (.ref a), .val (.int k)] [.int (2 : Int32), .ref a, .int (2 : Int32), .ref d, .ref d, .ref s, .ref s] := H260.iconst d_cut_320
                have H262 : Hr x b_cut Z EL1 2 13 hs1 [d, s] 322 #[.val (.ref a), .val (.int k)] [.int c2, .int (2 : Int32), .ref d, .ref d, .ref s, .ref s] := H261.caload ((((Fa.ext E1).ext E2).other W0 had).other W1 had) d_cut_321 (i := 2) rfl rfl
                obtain ⟨hs2, W2, H263⟩ := H262.castore (by simp) F2 d_cut_322 (i := 2) rfl (by simp) (hw := (nar_c r2.1 r2.2))
                have H263 : Hr x b_cut Z EL1 2 13 hs2 [d, s] 323 #[.val (.ref a), .val (.int k)] [.ref d, .ref s, .ref s] := H263
                have F2 : Ar Z hs2 d .char [.int c0, .int c1, .int c2, .int 0, .int 0, .int 0, .int 0, .int 0, .int 0] := F2.set W2
                have H264 : Hr x b_cut Z EL1 2 13 hs2 [d, s] 324 #[.val (.ref a), .val (.int k)] [.ref d, .ref d, .ref s, .ref s] := H263.dup d_cut_323
                have H265 : Hr x b_cut Z EL1 2 13 hs2 [d, s] 325 #[.val (.ref a), .val (.int k)] [.int (3 : Int32), .ref d, .ref d, .ref s, .ref s] := H264.iconst d_cut_324
                have H266 : Hr x b_cut Z EL1 2 13 hs2 [d, s] 326 #[.val (.ref a), .val (.int k)] [.ref a, .int (3 : Int32), .ref d, .ref d, .ref s, .ref s] := H265.aloadN d_cut_325
                have H267 : Hr x b_cut Z EL1 2 13 hs2 [d, s] 327 #[.val (.ref a), .val (.int k)] [.int (3 : Int32), .ref a, .int (3 : Int32), .ref d, .ref d, .ref s, .ref s] := H266.iconst d_cut_326
                have H268 : Hr x b_cut Z EL1 2 13 hs2 [d, s] 328 #[.val (.ref a), .val (.int k)] [.int c3, .int (3 : Int32), .ref d, .ref d, .ref s, .ref s] := H267.caload (((((Fa.ext E1).ext E2).other W0 had).other W1 had).other W2 had) d_cut_327 (i := 3) rfl rfl
                obtain ⟨hs3, W3, H269⟩ := H268.castore (by simp) F2 d_cut_328 (i := 3) rfl (by simp) (hw := (nar_c r3.1 r3.2))
                have H269 : Hr x b_cut Z EL1 2 13 hs3 [d, s] 329 #[.val (.ref a), .val (.int k)] [.ref d, .ref s, .ref s] := H269
                have F2 : Ar Z hs3 d .char [.int c0, .int c1, .int c2, .int c3, .int 0, .int 0, .int 0, .int 0, .int 0] := F2.set W3
                have H270 : Hr x b_cut Z EL1 2 13 hs3 [d, s] 330 #[.val (.ref a), .val (.int k)] [.ref d, .ref d, .ref s, .ref s] := H269.dup d_cut_329
                have H271 : Hr x b_cut Z EL1 2 13 hs3 [d, s] 331 #[.val (.ref a), .val (.int k)] [.int (4 : Int32), .ref d, .ref d, .ref s, .ref s] := H270.iconst d_cut_330
                have H272 : Hr x b_cut Z EL1 2 13 hs3 [d, s] 332 #[.val (.ref a), .val (.int k)] [.ref a, .int (4 : Int32), .ref d, .ref d, .ref s, .ref s] := H271.aloadN d_cut_331
                have H273 : Hr x b_cut Z EL1 2 13 hs3 [d, s] 333 #[.val (.ref a), .val (.int k)] [.int (4 : Int32), .ref a, .int (4 : Int32), .ref d, .ref d, .ref s, .ref s] := H272.iconst d_cut_332
                have H274 : Hr x b_cut Z EL1 2 13 hs3 [d, s] 334 #[.val (.ref a), .val (.int k)] [.int c4, .int (4 : Int32), .ref d, .ref d, .ref s, .ref s] := H273.caload ((((((Fa.ext E1).ext E2).other W0 had).other W1 had).other W2 had).other W3 had) d_cut_333 (i := 4) rfl rfl
                obtain ⟨hs4, W4, H275⟩ := H274.castore (by simp) F2 d_cut_334 (i := 4) rfl (by simp) (hw := (nar_c r4.1 r4.2))
                have H275 : Hr x b_cut Z EL1 2 13 hs4 [d, s] 335 #[.val (.ref a), .val (.int k)] [.ref d, .ref s, .ref s] := H275
                have F2 : Ar Z hs4 d .char [.int c0, .int c1, .int c2, .int c3, .int c4, .int 0, .int 0, .int 0, .int 0] := F2.set W4
                have H276 : Hr x b_cut Z EL1 2 13 hs4 [d, s] 336 #[.val (.ref a), .val (.int k)] [.ref d, .ref d, .ref s, .ref s] := H275.dup d_cut_335
                have H277 : Hr x b_cut Z EL1 2 13 hs4 [d, s] 337 #[.val (.ref a), .val (.int k)] [.int (5 : Int32), .ref d, .ref d, .ref s, .ref s] := H276.iconst d_cut_336
                have H278 : Hr x b_cut Z EL1 2 13 hs4 [d, s] 338 #[.val (.ref a), .val (.int k)] [.ref a, .int (5 : Int32), .ref d, .ref d, .ref s, .ref s] := H277.aloadN d_cut_337
                have H279 : Hr x b_cut Z EL1 2 13 hs4 [d, s] 339 #[.val (.ref a), .val (.int k)] [.int (5 : Int32), .ref a, .int (5 : Int32), .ref d, .ref d, .ref s, .ref s] := H278.iconst d_cut_338
                have H280 : Hr x b_cut Z EL1 2 13 hs4 [d, s] 340 #[.val (.ref a), .val (.int k)] [.int c5, .int (5 : Int32), .ref d, .ref d, .ref s, .ref s] := H279.caload (((((((Fa.ext E1).ext E2).other W0 had).other W1 had).other W2 had).other W3 had).other W4 had) d_cut_339 (i := 5) rfl rfl
                obtain ⟨hs5, W5, H281⟩ := H280.castore (by simp) F2 d_cut_340 (i := 5) rfl (by simp) (hw := (nar_c r5.1 r5.2))
                have H281 : Hr x b_cut Z EL1 2 13 hs5 [d, s] 341 #[.val (.ref a), .val (.int k)] [.ref d, .ref s, .ref s] := H281
                have F2 : Ar Z hs5 d .char [.int c0, .int c1, .int c2, .int c3, .int c4, .int c5, .int 0, .int 0, .int 0] := F2.set W5
                have H282 : Hr x b_cut Z EL1 2 13 hs5 [d, s] 342 #[.val (.ref a), .val (.int k)] [.ref d, .ref d, .ref s, .ref s] := H281.dup d_cut_341
                have H283 : Hr x b_cut Z EL1 2 13 hs5 [d, s] 344 #[.val (.ref a), .val (.int k)] [.int (6 : Int32), .ref d, .ref d, .ref s, .ref s] := H282.bipush d_cut_342
                have H284 : Hr x b_cut Z EL1 2 13 hs5 [d, s] 345 #[.val (.ref a), .val (.int k)] [.ref a, .int (6 : Int32), .ref d, .ref d, .ref s, .ref s] := H283.aloadN d_cut_344
                have H285 : Hr x b_cut Z EL1 2 13 hs5 [d, s] 347 #[.val (.ref a), .val (.int k)] [.int (6 : Int32), .ref a, .int (6 : Int32), .ref d, .ref d, .ref s, .ref s] := H284.bipush d_cut_345
                have H286 : Hr x b_cut Z EL1 2 13 hs5 [d, s] 348 #[.val (.ref a), .val (.int k)] [.int c6, .int (6 : Int32), .ref d, .ref d, .ref s, .ref s] := H285.caload ((((((((Fa.ext E1).ext E2).other W0 had).other W1 had).other W2 had).other W3 had).other W4 had).other W5 had) d_cut_347 (i := 6) rfl rfl
                obtain ⟨hs6, W6, H287⟩ := H286.castore (by simp) F2 d_cut_348 (i := 6) rfl (by simp) (hw := (nar_c r6.1 r6.2))
                have H287 : Hr x b_cut Z EL1 2 13 hs6 [d, s] 349 #[.val (.ref a), .val (.int k)] [.ref d, .ref s, .ref s] := H287
                have F2 : Ar Z hs6 d .char [.int c0, .int c1, .int c2, .int c3, .int c4, .int c5, .int c6, .int 0, .int 0] := F2.set W6
                have H288 : Hr x b_cut Z EL1 2 13 hs6 [d, s] 350 #[.val (.ref a), .val (.int k)] [.ref d, .ref d, .ref s, .ref s] := H287.dup d_cut_349
                have H289 : Hr x b_cut Z EL1 2 13 hs6 [d, s] 352 #[.val (.ref a), .val (.int k)] [.int (7 : Int32), .ref d, .ref d, .ref s, .ref s] := H288.bipush d_cut_350
                have H290 : Hr x b_cut Z EL1 2 13 hs6 [d, s] 353 #[.val (.ref a), .val (.int k)] [.ref a, .int (7 : Int32), .ref d, .ref d, .ref s, .ref s] := H289.aloadN d_cut_352
                have H291 : Hr x b_cut Z EL1 2 13 hs6 [d, s] 355 #[.val (.ref a), .val (.int k)] [.int (7 : Int32), .ref a, .int (7 : Int32), .ref d, .ref d, .ref s, .ref s] := H290.bipush d_cut_353
                have H292 : Hr x b_cut Z EL1 2 13 hs6 [d, s] 356 #[.val (.ref a), .val (.int k)] [.int c7, .int (7 : Int32), .ref d, .ref d, .ref s, .ref s] := H291.caload (((((((((Fa.ext E1).ext E2).other W0 had).other W1 had).other W2 had).other W3 had).other W4 had).other W5 had).other W6 had) d_cut_355 (i := 7) rfl rfl
                obtain ⟨hs7, W7, H293⟩ := H292.castore (by simp) F2 d_cut_356 (i := 7) rfl (by simp) (hw := (nar_c r7.1 r7.2))
                have H293 : Hr x b_cut Z EL1 2 13 hs7 [d, s] 357 #[.val (.ref a), .val (.int k)] [.ref d, .ref s, .ref s] := H293
                have F2 : Ar Z hs7 d .char [.int c0, .int c1, .int c2, .int c3, .int c4, .int c5, .int c6, .int c7, .int 0] := F2.set W7
                have H294 : Hr x b_cut Z EL1 2 13 hs7 [d, s] 358 #[.val (.ref a), .val (.int k)] [.ref d, .ref d, .ref s, .ref s] := H293.dup d_cut_357
                have H295 : Hr x b_cut Z EL1 2 13 hs7 [d, s] 360 #[.val (.ref a), .val (.int k)] [.int (8 : Int32), .ref d, .ref d, .ref s, .ref s] := H294.bipush d_cut_358
                have H296 : Hr x b_cut Z EL1 2 13 hs7 [d, s] 361 #[.val (.ref a), .val (.int k)] [.ref a, .int (8 : Int32), .ref d, .ref d, .ref s, .ref s] := H295.aloadN d_cut_360
                have H297 : Hr x b_cut Z EL1 2 13 hs7 [d, s] 363 #[.val (.ref a), .val (.int k)] [.int (8 : Int32), .ref a, .int (8 : Int32), .ref d, .ref d, .ref s, .ref s] := H296.bipush d_cut_361
                have H298 : Hr x b_cut Z EL1 2 13 hs7 [d, s] 364 #[.val (.ref a), .val (.int k)] [.int c8, .int (8 : Int32), .ref d, .ref d, .ref s, .ref s] := H297.caload ((((((((((Fa.ext E1).ext E2).other W0 had).other W1 had).other W2 had).other W3 had).other W4 had).other W5 had).other W6 had).other W7 had) d_cut_363 (i := 8) rfl rfl
                obtain ⟨hs8, W8, H299⟩ := H298.castore (by simp) F2 d_cut_364 (i := 8) rfl (by simp) (hw := (nar_c r8.1 r8.2))
                have H299 : Hr x b_cut Z EL1 2 13 hs8 [d, s] 365 #[.val (.ref a), .val (.int k)] [.ref d, .ref s, .ref s] := H299
                have F2 : Ar Z hs8 d .char [.int c0, .int c1, .int c2, .int c3, .int c4, .int c5, .int c6, .int c7, .int c8] := F2.set W8
                have hsd : @Ne Nat s d := by have := exa_lt X1; omega
                have Fc : Fld Z h1 s "java/lang/String" "coder" "B" (.int 0) := D1 (Or.inr (w32 hw)) (ty := .byte) (by decide)
                have Fv : Fld Z h1 s "java/lang/String" "value" "[B" .null := D1 (Or.inr (w34 hw)) (ty := .array .byte) (by decide)
                obtain ⟨_, hE, _, ⟨rfl, rfl, t, Fs⟩, KE, H300⟩ := H299.callI (argsL := [.ref d]) (rest := [.ref s]) (Wr := 1) (a := s) (ct_sini1 hw x.l x.nar x.kn hnar hs8 s d [c0, c1, c2, c3, c4, c5, c6, c7, c8] ((((((((((X1.ext E2).wr W0).wr W1).wr W2).wr W3).wr W4).wr W5).wr W6).wr W7).wr W8) ((((((((((Fc.ext E2).other W0 (Or.inl hsd)).other W1 (Or.inl hsd)).other W2 (Or.inl hsd)).other W3 (Or.inl hsd)).other W4 (Or.inl hsd)).other W5 (Or.inl hsd)).other W6 (Or.inl hsd)).other W7 (Or.inl hsd)).other W8 (Or.inl hsd)) ((((((((((Fv.ext E2).other W0 (Or.inl hsd)).other W1 (Or.inl hsd)).other W2 (Or.inl hsd)).other W3 (Or.inl hsd)).other W4 (Or.inl hsd)).other W5 (Or.inl hsd)).other W6 (Or.inl hsd)).other W7 (Or.inl hsd)).other W8 (Or.inl hsd)) F2 (by simp) (hcsC r0 (hcsC r1 (hcsC r2 (hcsC r3 (hcsC r4 (hcsC r5 (hcsC r6 (hcsC r7 (hcsC r8 hcs0))))))))) cz O hcz) (sub1 (by simp)) (w9 hw) (w10 hw) (w8 hw) (w11 hw) d_cut_365 pd_sini1 rfl (hf := by first | decide | (simp [b_cut, Bx.R]; done) | (simp [b_cut, Bx.R]; omega)) (hl := by first | decide | (simp [b_cut, Bx.R]; done) | (simp [b_cut, Bx.R]; omega)) (hc := by first | decide | (simp [b_cut, Bx.R]; done) | (simp [b_cut, Bx.R]; omega)) (hs := by first | decide | (simp [b_cut, Bx.R]; done) | (simp [b_cut, Bx.R]; omega))
                have H300 : Hr x b_cut Z EL1 6 30 hE [d, s] 368 #[.val (.ref a), .val (.int k)] [.ref s] := H300
                exact H300.finA d_cut_368 ⟨s, t, _, rfl, rfl, Fs⟩ sub0
def b_vals : Bx := (({ frames := 1, cells := 1, slots := 2, locals := 14 } : Room), (⟨"com/example/pigeonhole/pigeonhole/cli/Broker", "values", "()[Lcom/example/pigeonhole/pigeonhole/cli/Broker;"⟩ : MethodName), prog_14_method_1_code, 0, (Option.some (Jvm.ClassFile.FieldType.array (Jvm.ClassFile.FieldType.object "com/example/pigeonhole/pigeonhole/cli/Broker"))))
theorem ef_vals  (mI : MethodId) : entryFrame mI #[] 0 = mkF mI 0 #[] [] := by first | (simp [entryFrame, mkF, argsToLocals, Value.category]; done) | rfl
theorem pn_com_example_pigeonhole_pigeonhole_cli_Broker : plainName "com/example/pigeonhole/pigeonhole/cli/Broker" = true := by first | (simp [plainName, overriddenIn]; done) | decide +kernel
theorem pd_vals : parseMethodDescriptor "()[Lcom/example/pigeonhole/pigeonhole/cli/Broker;" = some ⟨[], some (.array (.object "com/example/pigeonhole/pigeonhole/cli/Broker"))⟩ := by decide +kernel
set_option maxRecDepth 65536 in
set_option maxHeartbeats 4000000 in
theorem ct_vals {a0 : Array Value} {Z : State} (hw : ∀ d ∈ tables_1, d.before a0 Z = true) (l : Launch) (nar kn : Bool) (hnr : nar = false) (h0 : Heap) (va rb kf : Addr) (cl : Cell) (Sv : Sta Z Z.heap "com/example/pigeonhole/pigeonhole/cli/Broker" "$VALUES" "[Lcom/example/pigeonhole/pigeonhole/cli/Broker;" (.ref va)) (Av : Arr Z Z.heap va cl (.object "com/example/pigeonhole/pigeonhole/cli/Broker")) (Ev : Exa Z Z.heap va "[Lcom/example/pigeonhole/pigeonhole/cli/Broker;") (Fv : FitC Z cl) (hcl : cl.slots.toList = [.ref rb, .ref kf]) :
    Ct l Z EL1 (⟨"com/example/pigeonhole/pigeonhole/cli/Broker", "values", "()[Lcom/example/pigeonhole/pigeonhole/cli/Broker;"⟩ : MethodName) prog_14_method_1_code 0 (Option.some (Jvm.ClassFile.FieldType.array (Jvm.ClassFile.FieldType.object "com/example/pigeonhole/pigeonhole/cli/Broker"))) ({ frames := 1, cells := 1, slots := 2, locals := 14 } : Room) #[] h0 [] nar kn (fun v h sn => ∃ c, v = some (.ref c) ∧ sn = [] ∧ Ar Z h c (.object "com/example/pigeonhole/pigeonhole/cli/Broker") [.ref rb, .ref kf]) := by
  refine Ct.intro (plainFor_of_name pn_com_example_pigeonhole_pigeonhole_cli_Broker) (ew hw) (ef_vals ) ?_
  intro x hl hn0 hkn hsf hh H0
  have hnar : x.nar = false := hn0.trans hnr
  have H0 : Hr x b_vals Z EL1 0 0 h0 [] 0 #[] [] := H0
  have hsz : cl.slots.size = 2 := by rw [← Array.length_toList, hcl]; rfl
  have H1 : Hr x b_vals Z EL1 0 0 h0 [] 3 #[] [.ref va] := H0.getS (w42 hw) (Sv.ext H0.old) d_vals_0
  obtain ⟨h1, E1, ⟨F1, X1⟩, H2⟩ := H1.clone (cap := 2) (cl := cl) (Wr := 0) (w44 hw) (w45 hw) (w49 hw) (w47 hw) (w48 hw) (w50 hw) (Av.ext H1.old) (Ev.ext H1.old) Fv d_vals_3 (by omega) (by omega)
  obtain ⟨c, g_c⟩ : ∃ z, z = h0.size := ⟨_, rfl⟩
  rw [← g_c] at F1 X1 H2
  rw [hcl] at F1
  have H2 : Hr x b_vals Z EL1 1 2 h1 [c] 6 #[] [.ref c] := H2
  have H3 : Hr x b_vals Z EL1 1 2 h1 [c] 9 #[] [.ref c] := H2.cast (w54 hw) (Ins.self X1) d_vals_6
  exact H3.finA d_vals_9 ⟨c, rfl, rfl, F1⟩ sub0
theorem efN_seq (a : Addr) (m : MethodId) : entryFrame m #[.ref a, .null] 3 = mkF m 0 #[.val (.ref a), .val .null, .unset] [] := by first | (simp [entryFrame, mkF, argsToLocals, Value.category]; done) | rfl
theorem pd_seqX : parseMethodDescriptor "(Ljava/lang/Object;)Z" = some ⟨[(.object "java/lang/Object")], some .boolean⟩ := by decide +kernel
set_option maxRecDepth 65536 in
set_option maxHeartbeats 4000000 in
theorem ct_seqN {a0 : Array Value} {Z : State} (hw : ∀ d ∈ tables_1, d.before a0 Z = true) (l : Launch) (nar kn : Bool) (hnr : nar = false) (h0 : Heap) (a : Addr) :
    Ct l Z EL1 (⟨"java/lang/String", "equals", "(Ljava/lang/Object;)Z"⟩ : MethodName) jdk_42_method_66_code 3 (Option.some Jvm.ClassFile.FieldType.boolean) ({ frames := 1, cells := 0, slots := 0, locals := 14 } : Room) #[.ref a, .null] h0 [] nar kn (fun v h sn => v = some (.int 0) ∧ sn = [] ∧ h = h0) := by
  refine Ct.intro (plainFor_of_name pn_java_lang_String) (ew hw) (efN_seq a) ?_
  intro x hl hn0 hkn hsf hh H0
  have hnar : x.nar = false := hn0.trans hnr
  have H0 : Hr x b_seq Z EL1 0 0 h0 [] 0 #[.val (.ref a), .val (.null), .unset] [] := H0
  have H1 : Hr x b_seq Z EL1 0 0 h0 [] 1 #[.val (.ref a), .val (.null), .unset] [.ref a] := H0.aloadN d_seq_0
  have H2 : Hr x b_seq Z EL1 0 0 h0 [] 2 #[.val (.ref a), .val (.null), .unset] [.null, .ref a] := H1.aloadN d_seq_1
  have H3 : Hr x b_seq Z EL1 0 0 h0 [] 7 #[.val (.ref a), .val (.null), .unset] [] := H2.acmpT d_seq_2 (by simp [XT.acmp])
  have H4 : Hr x b_seq Z EL1 0 0 h0 [] 8 #[.val (.ref a), .val (.null), .unset] [.null] := H3.aloadN d_seq_7
  have H5 : Hr x b_seq Z EL1 0 0 h0 [] 11 #[.val (.ref a), .val (.null), .unset] [.int (0 : Int32)] := H4.instNull d_seq_8
  have H6 : Hr x b_seq Z EL1 0 0 h0 [] 54 #[.val (.ref a), .val (.null), .unset] [] := H5.ifT d_seq_11 (XT.i0_eq_t rfl)
  have H7 : Hr x b_seq Z EL1 0 0 h0 [] 55 #[.val (.ref a), .val (.null), .unset] [.int (0 : Int32)] := H6.iconst d_seq_54
  exact H7.finZ d_seq_55 (t := .boolean) (by first | rfl | decide) ⟨rfl, rfl, rfl⟩ sub0
def tR : List Int32 := [114, 97, 98, 98, 105, 116, 109, 113]
def tK : List Int32 := [107, 97, 102, 107, 97]
def b_named : Bx := (({ frames := 2, cells := 1, slots := 2, locals := 28 } : Room), (⟨"com/example/pigeonhole/pigeonhole/cli/Broker", "named", "(Ljava/lang/String;)Lcom/example/pigeonhole/pigeonhole/cli/Broker;"⟩ : MethodName), prog_14_method_6_code, 5, (Option.some (Jvm.ClassFile.FieldType.object "com/example/pigeonhole/pigeonhole/cli/Broker")))
theorem ef_named (s : Addr) (mI : MethodId) : entryFrame mI #[.ref s] 5 = mkF mI 0 #[.val (.ref s), .unset, .unset, .unset, .unset] [] := by first | (simp [entryFrame, mkF, argsToLocals, Value.category]; done) | rfl
/-- what named(s) answers -/
def who (bs : List Int32) (rb kf : Addr) : Value := if bs = tR then .ref rb else if bs = tK then .ref kf else .null
theorem pd_named : parseMethodDescriptor "(Ljava/lang/String;)Lcom/example/pigeonhole/pigeonhole/cli/Broker;" = some ⟨[(.object "java/lang/String")], some (.object "com/example/pigeonhole/pigeonhole/cli/Broker")⟩ := by decide +kernel
set_option maxRecDepth 65536 in
set_option maxHeartbeats 4000000 in
theorem ct_named {a0 : Array Value} {Z : State} (hw : ∀ d ∈ tables_1, d.before a0 Z = true) (l : Launch) (nar kn : Bool) (hnr : nar = false) (h0 : Heap) (va rb kf : Addr) (cl : Cell) (Sv : Sta Z Z.heap "com/example/pigeonhole/pigeonhole/cli/Broker" "$VALUES" "[Lcom/example/pigeonhole/pigeonhole/cli/Broker;" (.ref va)) (Av : Arr Z Z.heap va cl (.object "com/example/pigeonhole/pigeonhole/cli/Broker")) (Ev : Exa Z Z.heap va "[Lcom/example/pigeonhole/pigeonhole/cli/Broker;") (Fv : FitC Z cl) (hcl : cl.slots.toList = [.ref rb, .ref kf]) (sr tr sk tk : Addr) (Gr : Fld Z Z.heap rb "com/example/pigeonhole/pigeonhole/cli/Broker" "settingValue" "Ljava/lang/String;" (.ref sr)) (Gk : Fld Z Z.heap kf "com/example/pigeonhole/pigeonhole/cli/Broker" "settingValue" "Ljava/lang/String;" (.ref sk)) (Tr : Str Z Z.heap sr tr tR) (Tk : Str Z Z.heap sk tk tK) (s t : Addr) (bs : List Int32) (Fs : Str Z h0 s t bs) (cz : Int32) (O : Sta Z Z.heap "java/lang/String" "COMPACT_STRINGS" "Z" (.int cz)) (hcz : ¬ cz = 0) :
    Ct l Z EL1 (⟨"com/example/pigeonhole/pigeonhole/cli/Broker", "named", "(Ljava/lang/String;)Lcom/example/pigeonhole/pigeonhole/cli/Broker;"⟩ : MethodName) prog_14_method_6_code 5 (Option.some (Jvm.ClassFile.FieldType.object "com/example/pigeonhole/pigeonhole/cli/Broker")) ({ frames := 2, cells := 1, slots := 2, locals := 28 } : Room) #[.ref s] h0 [] nar kn (fun v h sn => v = some (who bs rb kf) ∧ sn = []) := by
  refine Ct.intro (plainFor_of_name pn_com_example_pigeonhole_pigeonhole_cli_Broker) (ew hw) (ef_named s) ?_
  intro x hl hn0 hkn hsf hh H0
  have hnar : x.nar = false := hn0.trans hnr
  have H0 : Hr x b_named Z EL1 0 0 h0 [] 0 #[.val (.ref s), .unset, .unset, .unset, .unset] [] := H0
  obtain ⟨_, h1, _, ⟨c, rfl, rfl, Fc⟩, K1, H1⟩ := H0.callS (argsL := []) (rest := []) (Wr := 0) (ct_vals hw x.l x.nar x.kn hnar h0 va rb kf cl Sv Av Ev Fv hcl) sub0 (w39 hw) (w40 hw) (w37 hw) (w41 hw) d_named_0 pd_vals rfl (hf := by first | decide | (simp [b_named, Bx.R]; done) | (simp [b_named, Bx.R]; omega)) (hl := by first | decide | (simp [b_named, Bx.R]; done) | (simp [b_named, Bx.R]; omega)) (hc := by first | decide | (simp [b_named, Bx.R]; done) | (simp [b_named, Bx.R]; omega)) (hs := by first | decide | (simp [b_named, Bx.R]; done) | (simp [b_named, Bx.R]; omega))
  have H1 : Hr x b_named Z EL1 1 2 h1 [] 3 #[.val (.ref s), .unset, .unset, .unset, .unset] [.ref c] := H1
  have H2 : Hr x b_named Z EL1 1 2 h1 [] 4 #[.val (.ref s), .val (.ref c), .unset, .unset, .unset] [] := H1.astoreN d_named_3
  have H3 : Hr x b_named Z EL1 1 2 h1 [] 5 #[.val (.ref s), .val (.ref c), .unset, .unset, .unset] [.ref c] := H2.aloadN d_named_4
  have H4 : Hr x b_named Z EL1 1 2 h1 [] 6 #[.val (.ref s), .val (.ref c), .unset, .unset, .unset] [.int (2 : Int32)] := H3.arraylength Fc d_named_5
  have H5 : Hr x b_named Z EL1 1 2 h1 [] 7 #[.val (.ref s), .val (.ref c), .val (.int (2 : Int32)), .unset, .unset] [] := H4.istoreN d_named_6
  have H6 : Hr x b_named Z EL1 1 2 h1 [] 8 #[.val (.ref s), .val (.ref c), .val (.int (2 : Int32)), .unset, .unset] [.int (0 : Int32)] := H5.iconst d_named_7
  have H7 : Hr x b_named Z EL1 1 2 h1 [] 9 #[.val (.ref s), .val (.ref c), .val (.int (2 : Int32)), .val (.int (0 : Int32)), .unset] [] := H6.istoreN d_named_8
  have H8 : Hr x b_named Z EL1 1 2 h1 [] 10 #[.val (.ref s), .val (.ref c), .val (.int (2 : Int32)), .val (.int (0 : Int32)), .unset] [.int (0 : Int32)] := H7.iloadN d_named_9
  have H9 : Hr x b_named Z EL1 1 2 h1 [] 11 #[.val (.ref s), .val (.ref c), .val (.int (2 : Int32)), .val (.int (0 : Int32)), .unset] [.int (2 : Int32), .int (0 : Int32)] := H8.iloadN d_named_10
  have H10 : Hr x b_named Z EL1 1 2 h1 [] 14 #[.val (.ref s), .val (.ref c), .val (.int (2 : Int32)), .val (.int (0 : Int32)), .unset] [] := H9.icmpF d_named_11 (XT.ii_ge_f (by decide))
  have H11 : Hr x b_named Z EL1 1 2 h1 [] 15 #[.val (.ref s), .val (.ref c), .val (.int (2 : Int32)), .val (.int (0 : Int32)), .unset] [.ref c] := H10.aloadN d_named_14
  have H12 : Hr x b_named Z EL1 1 2 h1 [] 16 #[.val (.ref s), .val (.ref c), .val (.int (2 : Int32)), .val (.int (0 : Int32)), .unset] [.int (0 : Int32), .ref c] := H11.iloadN d_named_15
  have H13 : Hr x b_named Z EL1 1 2 h1 [] 17 #[.val (.ref s), .val (.ref c), .val (.int (2 : Int32)), .val (.int (0 : Int32)), .unset] [.ref rb] := H12.aaload Fc d_named_16 (i := 0) rfl rfl
  have H14 : Hr x b_named Z EL1 1 2 h1 [] 19 #[.val (.ref s), .val (.ref c), .val (.int (2 : Int32)), .val (.int (0 : Int32)), .val (.ref rb)] [] := H13.astore d_named_17
  have H15 : Hr x b_named Z EL1 1 2 h1 [] 21 #[.val (.ref s), .val (.ref c), .val (.int (2 : Int32)), .val (.int (0 : Int32)), .val (.ref rb)] [.ref rb] := H14.aload d_named_19
  have H16 : Hr x b_named Z EL1 1 2 h1 [] 24 #[.val (.ref s), .val (.ref c), .val (.int (2 : Int32)), .val (.int (0 : Int32)), .val (.ref rb)] [.ref sr] := H15.getF (w56 hw) (Gr.ext H15.old) d_named_21
  have H17 : Hr x b_named Z EL1 1 2 h1 [] 25 #[.val (.ref s), .val (.ref c), .val (.int (2 : Int32)), .val (.int (0 : Int32)), .val (.ref rb)] [.ref s, .ref sr] := H16.aloadN d_named_24
  obtain ⟨_, hq0, _, ⟨rfl, rfl, eq0⟩, Kq0, H18⟩ := H17.callV (argsL := [.ref s]) (rest := []) (Wr := 0) (a := sr) (ct_seq hw x.l x.nar x.kn hnar h1 sr tr s t tR bs (Tr.ext H17.old) (Fs.keep K1 nin0 nin0) cz O hcz) sub0 (Tr.ext H17.old).1 (w58 hw) (w59 hw) (w61 hw) (w61 hw) (w60 hw) (w8 hw) (w62 hw) d_named_25 pd_seq rfl (hf := by first | decide | (simp [b_named, Bx.R]; done) | (simp [b_named, Bx.R]; omega)) (hl := by first | decide | (simp [b_named, Bx.R]; done) | (simp [b_named, Bx.R]; omega)) (hc := by first | decide | (simp [b_named, Bx.R]; done) | (simp [b_named, Bx.R]; omega)) (hs := by first | decide | (simp [b_named, Bx.R]; done) | (simp [b_named, Bx.R]; omega))
  rw [eq0] at H18
  have H18 : Hr x b_named Z EL1 1 2 h1 [] 28 #[.val (.ref s), .val (.ref c), .val (.int (2 : Int32)), .val (.int (0 : Int32)), .val (.ref rb)] [.int (if tR = bs then 1 else 0)] := H18
  by_cases q0 : tR = bs
  · have z18 := q0
    have H19 : Hr x b_named Z EL1 1 2 h1 [] 31 #[.val (.ref s), .val (.ref c), .val (.int (2 : Int32)), .val (.int (0 : Int32)), .val (.ref rb)] [] := H18.ifF d_named_28 (XT.i0_eq_f (by rw [if_pos q0]; decide))
    have H20 : Hr x b_named Z EL1 1 2 h1 [] 33 #[.val (.ref s), .val (.ref c), .val (.int (2 : Int32)), .val (.int (0 : Int32)), .val (.ref rb)] [.ref rb] := H19.aload d_named_31
    exact H20.finA d_named_33 ⟨by rw [show who bs rb kf = .ref rb by subst q0; simp [who]], rfl⟩ sub0
  · have z20 := q0
    have H21 : Hr x b_named Z EL1 1 2 h1 [] 34 #[.val (.ref s), .val (.ref c), .val (.int (2 : Int32)), .val (.int (0 : Int32)), .val (.ref rb)] [] := H18.ifT d_named_28 (XT.i0_eq_t (if_neg q0))
    have H22 : Hr x b_named Z EL1 1 2 h1 [] 37 #[.val (.ref s), .val (.ref c), .val (.int (2 : Int32)), .val (.int (1 : Int32)), .val (.ref rb)] [] := H21.iinc d_named_34 (v := (1 : Int32)) (hv := (by decide))
    have H23 : Hr x b_named Z EL1 1 2 h1 [] 9 #[.val (.ref s), .val (.ref c), .val (.int (2 : Int32)), .val (.int (1 : Int32)), .val (.ref rb)] [] := H22.goto d_named_37
    have H24 : Hr x b_named Z EL1 1 2 h1 [] 10 #[.val (.ref s), .val (.ref c), .val (.int (2 : Int32)), .val (.int (1 : Int32)), .val (.ref rb)] [.int (1 : Int32)] := H23.iloadN d_named_9
    have H25 : Hr x b_named Z EL1 1 2 h1 [] 11 #[.val (.ref s), .val (.ref c), .val (.int (2 : Int32)), .val (.int (1 : Int32)), .val (.ref rb)] [.int (2 : Int32), .int (1 : Int32)] := H24.iloadN d_named_10
    have H26 : Hr x b_named Z EL1 1 2 h1 [] 14 #[.val (.ref s), .val (.ref c), .val (.int (2 : Int32)), .val (.int (1 : Int32)), .val (.ref rb)] [] := H25.icmpF d_named_11 (XT.ii_ge_f (by decide))
    have H27 : Hr x b_named Z EL1 1 2 h1 [] 15 #[.val (.ref s), .val (.ref c), .val (.int (2 : Int32)), .val (.int (1 : Int32)), .val (.ref rb)] [.ref c] := H26.aloadN d_named_14
    have H28 : Hr x b_named Z EL1 1 2 h1 [] 16 #[.val (.ref s), .val (.ref c), .val (.int (2 : Int32)), .val (.int (1 : Int32)), .val (.ref rb)] [.int (1 : Int32), .ref c] := H27.iloadN d_named_15
    have H29 : Hr x b_named Z EL1 1 2 h1 [] 17 #[.val (.ref s), .val (.ref c), .val (.int (2 : Int32)), .val (.int (1 : Int32)), .val (.ref rb)] [.ref kf] := H28.aaload Fc d_named_16 (i := 1) rfl rfl
    have H30 : Hr x b_named Z EL1 1 2 h1 [] 19 #[.val (.ref s), .val (.ref c), .val (.int (2 : Int32)), .val (.int (1 : Int32)), .val (.ref kf)] [] := H29.astore d_named_17
    have H31 : Hr x b_named Z EL1 1 2 h1 [] 21 #[.val (.ref s), .val (.ref c), .val (.int (2 : Int32)), .val (.int (1 : Int32)), .val (.ref kf)] [.ref kf] := H30.aload d_named_19
    have H32 : Hr x b_named Z EL1 1 2 h1 [] 24 #[.val (.ref s), .val (.ref c), .val (.int (2 : Int32)), .val (.int (1 : Int32)), .val (.ref kf)] [.ref sk] := H31.getF (w56 hw) (Gk.ext H31.old) d_named_21
    have H33 : Hr x b_named Z EL1 1 2 h1 [] 25 #[.val (.ref s), .val (.ref c), .val (.int (2 : Int32)), .val (.int (1 : Int32)), .val (.ref kf)] [.ref s, .ref sk] := H32.aloadN d_named_24
    obtain ⟨_, hq1, _, ⟨rfl, rfl, eq1⟩, Kq1, H34⟩ := H33.callV (argsL := [.ref s]) (rest := []) (Wr := 0) (a := sk) (ct_seq hw x.l x.nar x.kn hnar h1 sk tk s t tK bs (Tk.ext H33.old) (Fs.keep K1 nin0 nin0) cz O hcz) sub0 (Tk.ext H33.old).1 (w58 hw) (w59 hw) (w61 hw) (w61 hw) (w60 hw) (w8 hw) (w62 hw) d_named_25 pd_seq rfl (hf := by first | decide | (simp [b_named, Bx.R]; done) | (simp [b_named, Bx.R]; omega)) (hl := by first | decide | (simp [b_named, Bx.R]; done) | (simp [b_named, Bx.R]; omega)) (hc := by first | decide | (simp [b_named, Bx.R]; done) | (simp [b_named, Bx.R]; omega)) (hs := by first | decide | (simp [b_named, Bx.R]; done) | (simp [b_named, Bx.R]; omega))
    rw [eq1] at H34
    have H34 : Hr x b_named Z EL1 1 2 h1 [] 28 #[.val (.ref s), .val (.ref c), .val (.int (2 : Int32)), .val (.int (1 : Int32)), .val (.ref kf)] [.int (if tK = bs then 1 else 0)] := H34
    by_cases q1 : tK = bs
    · have z34 := q1
      have H35 : Hr x b_named Z EL1 1 2 h1 [] 31 #[.val (.ref s), .val (.ref c), .val (.int (2 : Int32)), .val (.int (1 : Int32)), .val (.ref kf)] [] := H34.ifF d_named_28 (XT.i0_eq_f (by rw [if_pos q1]; decide))
      have H36 : Hr x b_named Z EL1 1 2 h1 [] 33 #[.val (.ref s), .val (.ref c), .val (.int (2 : Int32)), .val (.int (1 : Int32)), .val (.ref kf)] [.ref kf] := H35.aload d_named_31
      exact H36.finA d_named_33 ⟨by rw [show who bs rb kf = .ref kf by subst q1; simp [who, tR, tK]], rfl⟩ sub0
    · have z36 := q1
      have H37 : Hr x b_named Z EL1 1 2 h1 [] 34 #[.val (.ref s), .val (.ref c), .val (.int (2 : Int32)), .val (.int (1 : Int32)), .val (.ref kf)] [] := H34.ifT d_named_28 (XT.i0_eq_t (if_neg q1))
      have H38 : Hr x b_named Z EL1 1 2 h1 [] 37 #[.val (.ref s), .val (.ref c), .val (.int (2 : Int32)), .val (.int (2 : Int32)), .val (.ref kf)] [] := H37.iinc d_named_34 (v := (2 : Int32)) (hv := (by decide))
      have H39 : Hr x b_named Z EL1 1 2 h1 [] 9 #[.val (.ref s), .val (.ref c), .val (.int (2 : Int32)), .val (.int (2 : Int32)), .val (.ref kf)] [] := H38.goto d_named_37
      have H40 : Hr x b_named Z EL1 1 2 h1 [] 10 #[.val (.ref s), .val (.ref c), .val (.int (2 : Int32)), .val (.int (2 : Int32)), .val (.ref kf)] [.int (2 : Int32)] := H39.iloadN d_named_9
      have H41 : Hr x b_named Z EL1 1 2 h1 [] 11 #[.val (.ref s), .val (.ref c), .val (.int (2 : Int32)), .val (.int (2 : Int32)), .val (.ref kf)] [.int (2 : Int32), .int (2 : Int32)] := H40.iloadN d_named_10
      have H42 : Hr x b_named Z EL1 1 2 h1 [] 40 #[.val (.ref s), .val (.ref c), .val (.int (2 : Int32)), .val (.int (2 : Int32)), .val (.ref kf)] [] := H41.icmpT d_named_11 (XT.ii_ge_t (by decide))
      have H43 : Hr x b_named Z EL1 1 2 h1 [] 41 #[.val (.ref s), .val (.ref c), .val (.int (2 : Int32)), .val (.int (2 : Int32)), .val (.ref kf)] [.null] := H42.aconstNull d_named_40
      exact H43.finA d_named_41 ⟨by rw [show who bs rb kf = .null by simp [who, Ne.symm q0, Ne.symm q1]], rfl⟩ sub0
theorem efN_named (m : MethodId) : entryFrame m #[.null] 5 = mkF m 0 #[.val .null, .unset, .unset, .unset, .unset] [] := by first | (simp [entryFrame, mkF, argsToLocals, Value.category]; done) | rfl
set_option maxRecDepth 65536 in
set_option maxHeartbeats 4000000 in
theorem ct_namedN {a0 : Array Value} {Z : State} (hw : ∀ d ∈ tables_1, d.before a0 Z = true) (l : Launch) (nar kn : Bool) (hnr : nar = false) (h0 : Heap) (va rb kf : Addr) (cl : Cell) (Sv : Sta Z Z.heap "com/example/pigeonhole/pigeonhole/cli/Broker" "$VALUES" "[Lcom/example/pigeonhole/pigeonhole/cli/Broker;" (.ref va)) (Av : Arr Z Z.heap va cl (.object "com/example/pigeonhole/pigeonhole/cli/Broker")) (Ev : Exa Z Z.heap va "[Lcom/example/pigeonhole/pigeonhole/cli/Broker;") (Fv : FitC Z cl) (hcl : cl.slots.toList = [.ref rb, .ref kf]) (sr tr sk tk : Addr) (Gr : Fld Z Z.heap rb "com/example/pigeonhole/pigeonhole/cli/Broker" "settingValue" "Ljava/lang/String;" (.ref sr)) (Gk : Fld Z Z.heap kf "com/example/pigeonhole/pigeonhole/cli/Broker" "settingValue" "Ljava/lang/String;" (.ref sk)) (Tr : Str Z Z.heap sr tr tR) (Tk : Str Z Z.heap sk tk tK)  :
    Ct l Z EL1 (⟨"com/example/pigeonhole/pigeonhole/cli/Broker", "named", "(Ljava/lang/String;)Lcom/example/pigeonhole/pigeonhole/cli/Broker;"⟩ : MethodName) prog_14_method_6_code 5 (Option.some (Jvm.ClassFile.FieldType.object "com/example/pigeonhole/pigeonhole/cli/Broker")) ({ frames := 2, cells := 1, slots := 2, locals := 28 } : Room) #[.null] h0 [] nar kn (fun v h sn => v = some .null ∧ sn = []) := by
  refine Ct.intro (plainFor_of_name pn_com_example_pigeonhole_pigeonhole_cli_Broker) (ew hw) (efN_named ) ?_
  intro x hl hn0 hkn hsf hh H0
  have hnar : x.nar = false := hn0.trans hnr
  have H0 : Hr x b_named Z EL1 0 0 h0 [] 0 #[.val (.null), .unset, .unset, .unset, .unset] [] := H0
  obtain ⟨_, h1, _, ⟨c, rfl, rfl, Fc⟩, K1, H1⟩ := H0.callS (argsL := []) (rest := []) (Wr := 0) (ct_vals hw x.l x.nar x.kn hnar h0 va rb kf cl Sv Av Ev Fv hcl) sub0 (w39 hw) (w40 hw) (w37 hw) (w41 hw) d_named_0 pd_vals rfl (hf := by first | decide | (simp [b_named, Bx.R]; done) | (simp [b_named, Bx.R]; omega)) (hl := by first | decide | (simp [b_named, Bx.R]; done) | (simp [b_named, Bx.R]; omega)) (hc := by first | decide | (simp [b_named, Bx.R]; done) | (simp [b_named, Bx.R]; omega)) (hs := by first | decide | (simp [b_named, Bx.R]; done) | (simp [b_named, Bx.R]; omega))
  have H1 : Hr x b_named Z EL1 1 2 h1 [] 3 #[.val (.null), .unset, .unset, .unset, .unset] [.ref c] := H1
  have H2 : Hr x b_named Z EL1 1 2 h1 [] 4 #[.val (.null), .val (.ref c), .unset, .unset, .unset] [] := H1.astoreN d_named_3
  have H3 : Hr x b_named Z EL1 1 2 h1 [] 5 #[.val (.null), .val (.ref c), .unset, .unset, .unset] [.ref c] := H2.aloadN d_named_4
  have H4 : Hr x b_named Z EL1 1 2 h1 [] 6 #[.val (.null), .val (.ref c), .unset, .unset, .unset] [.int (2 : Int32)] := H3.arraylength Fc d_named_5
  have H5 : Hr x b_named Z EL1 1 2 h1 [] 7 #[.val (.null), .val (.ref c), .val (.int (2 : Int32)), .unset, .unset] [] := H4.istoreN d_named_6
  have H6 : Hr x b_named Z EL1 1 2 h1 [] 8 #[.val (.null), .val (.ref c), .val (.int (2 : Int32)), .unset, .unset] [.int (0 : Int32)] := H5.iconst d_named_7
  have H7 : Hr x b_named Z EL1 1 2 h1 [] 9 #[.val (.null), .val (.ref c), .val (.int (2 : Int32)), .val (.int (0 : Int32)), .unset] [] := H6.istoreN d_named_8
  have H8 : Hr x b_named Z EL1 1 2 h1 [] 10 #[.val (.null), .val (.ref c), .val (.int (2 : Int32)), .val (.int (0 : Int32)), .unset] [.int (0 : Int32)] := H7.iloadN d_named_9
  have H9 : Hr x b_named Z EL1 1 2 h1 [] 11 #[.val (.null), .val (.ref c), .val (.int (2 : Int32)), .val (.int (0 : Int32)), .unset] [.int (2 : Int32), .int (0 : Int32)] := H8.iloadN d_named_10
  have H10 : Hr x b_named Z EL1 1 2 h1 [] 14 #[.val (.null), .val (.ref c), .val (.int (2 : Int32)), .val (.int (0 : Int32)), .unset] [] := H9.icmpF d_named_11 (XT.ii_ge_f (by decide))
  have H11 : Hr x b_named Z EL1 1 2 h1 [] 15 #[.val (.null), .val (.ref c), .val (.int (2 : Int32)), .val (.int (0 : Int32)), .unset] [.ref c] := H10.aloadN d_named_14
  have H12 : Hr x b_named Z EL1 1 2 h1 [] 16 #[.val (.null), .val (.ref c), .val (.int (2 : Int32)), .val (.int (0 : Int32)), .unset] [.int (0 : Int32), .ref c] := H11.iloadN d_named_15
  have H13 : Hr x b_named Z EL1 1 2 h1 [] 17 #[.val (.null), .val (.ref c), .val (.int (2 : Int32)), .val (.int (0 : Int32)), .unset] [.ref rb] := H12.aaload Fc d_named_16 (i := 0) rfl rfl
  have H14 : Hr x b_named Z EL1 1 2 h1 [] 19 #[.val (.null), .val (.ref c), .val (.int (2 : Int32)), .val (.int (0 : Int32)), .val (.ref rb)] [] := H13.astore d_named_17
  have H15 : Hr x b_named Z EL1 1 2 h1 [] 21 #[.val (.null), .val (.ref c), .val (.int (2 : Int32)), .val (.int (0 : Int32)), .val (.ref rb)] [.ref rb] := H14.aload d_named_19
  have H16 : Hr x b_named Z EL1 1 2 h1 [] 24 #[.val (.null), .val (.ref c), .val (.int (2 : Int32)), .val (.int (0 : Int32)), .val (.ref rb)] [.ref sr] := H15.getF (w56 hw) (Gr.ext H15.old) d_named_21
  have H17 : Hr x b_named Z EL1 1 2 h1 [] 25 #[.val (.null), .val (.ref c), .val (.int (2 : Int32)), .val (.int (0 : Int32)), .val (.ref rb)] [.null, .ref sr] := H16.aloadN d_named_24
  obtain ⟨_, hq0, _, ⟨rfl, rfl, eq0⟩, Kq0, H18⟩ := H17.callV (argsL := [.null]) (rest := []) (Wr := 0) (a := sr) (ct_seqN hw x.l x.nar x.kn hnar h1 sr) sub0 (Tr.ext H17.old).1 (w58 hw) (w59 hw) (w61 hw) (w61 hw) (w60 hw) (w8 hw) (w62 hw) d_named_25 pd_seq rfl (hf := by first | decide | (simp [b_named, Bx.R]; done) | (simp [b_named, Bx.R]; omega)) (hl := by first | decide | (simp [b_named, Bx.R]; done) | (simp [b_named, Bx.R]; omega)) (hc := by first | decide | (simp [b_named, Bx.R]; done) | (simp [b_named, Bx.R]; omega)) (hs := by first | decide | (simp [b_named, Bx.R]; done) | (simp [b_named, Bx.R]; omega))
  rw [eq0] at H18
  have H18 : Hr x b_named Z EL1 1 2 h1 [] 28 #[.val (.null), .val (.ref c), .val (.int (2 : Int32)), .val (.int (0 : Int32)), .val (.ref rb)] [.int (0 : Int32)] := H18
  have H19 : Hr x b_named Z EL1 1 2 h1 [] 34 #[.val (.null), .val (.ref c), .val (.int (2 : Int32)), .val (.int (0 : Int32)), .val (.ref rb)] [] := H18.ifT d_named_28 (XT.i0_eq_t rfl)
  have H20 : Hr x b_named Z EL1 1 2 h1 [] 37 #[.val (.null), .val (.ref c), .val (.int (2 : Int32)), .val (.int (1 : Int32)), .val (.ref rb)] [] := H19.iinc d_named_34 (v := (1 : Int32)) (hv := (by decide))
  have H21 : Hr x b_named Z EL1 1 2 h1 [] 9 #[.val (.null), .val (.ref c), .val (.int (2 : Int32)), .val (.int (1 : Int32)), .val (.ref rb)] [] := H20.goto d_named_37
  have H22 : Hr x b_named Z EL1 1 2 h1 [] 10 #[.val (.null), .val (.ref c), .val (.int (2 : Int32)), .val (.int (1 : Int32)), .val (.ref rb)] [.int (1 : Int32)] := H21.iloadN d_named_9
  have H23 : Hr x b_named Z EL1 1 2 h1 [] 11 #[.val (.null), .val (.ref c), .val (.int (2 : Int32)), .val (.int (1 : Int32)), .val (.ref rb)] [.int (2 : Int32), .int (1 : Int32)] := H22.iloadN d_named_10
  have H24 : Hr x b_named Z EL1 1 2 h1 [] 14 #[.val (.null), .val (.ref c), .val (.int (2 : Int32)), .val (.int (1 : Int32)), .val (.ref rb)] [] := H23.icmpF d_named_11 (XT.ii_ge_f (by decide))
  have H25 : Hr x b_named Z EL1 1 2 h1 [] 15 #[.val (.null), .val (.ref c), .val (.int (2 : Int32)), .val (.int (1 : Int32)), .val (.ref rb)] [.ref c] := H24.aloadN d_named_14
  have H26 : Hr x b_named Z EL1 1 2 h1 [] 16 #[.val (.null), .val (.ref c), .val (.int (2 : Int32)), .val (.int (1 : Int32)), .val (.ref rb)] [.int (1 : Int32), .ref c] := H25.iloadN d_named_15
  have H27 : Hr x b_named Z EL1 1 2 h1 [] 17 #[.val (.null), .val (.ref c), .val (.int (2 : Int32)), .val (.int (1 : Int32)), .val (.ref rb)] [.ref kf] := H26.aaload Fc d_named_16 (i := 1) rfl rfl
  have H28 : Hr x b_named Z EL1 1 2 h1 [] 19 #[.val (.null), .val (.ref c), .val (.int (2 : Int32)), .val (.int (1 : Int32)), .val (.ref kf)] [] := H27.astore d_named_17
  have H29 : Hr x b_named Z EL1 1 2 h1 [] 21 #[.val (.null), .val (.ref c), .val (.int (2 : Int32)), .val (.int (1 : Int32)), .val (.ref kf)] [.ref kf] := H28.aload d_named_19
  have H30 : Hr x b_named Z EL1 1 2 h1 [] 24 #[.val (.null), .val (.ref c), .val (.int (2 : Int32)), .val (.int (1 : Int32)), .val (.ref kf)] [.ref sk] := H29.getF (w56 hw) (Gk.ext H29.old) d_named_21
  have H31 : Hr x b_named Z EL1 1 2 h1 [] 25 #[.val (.null), .val (.ref c), .val (.int (2 : Int32)), .val (.int (1 : Int32)), .val (.ref kf)] [.null, .ref sk] := H30.aloadN d_named_24
  obtain ⟨_, hq1, _, ⟨rfl, rfl, eq1⟩, Kq1, H32⟩ := H31.callV (argsL := [.null]) (rest := []) (Wr := 0) (a := sk) (ct_seqN hw x.l x.nar x.kn hnar h1 sk) sub0 (Tk.ext H31.old).1 (w58 hw) (w59 hw) (w61 hw) (w61 hw) (w60 hw) (w8 hw) (w62 hw) d_named_25 pd_seq rfl (hf := by first | decide | (simp [b_named, Bx.R]; done) | (simp [b_named, Bx.R]; omega)) (hl := by first | decide | (simp [b_named, Bx.R]; done) | (simp [b_named, Bx.R]; omega)) (hc := by first | decide | (simp [b_named, Bx.R]; done) | (simp [b_named, Bx.R]; omega)) (hs := by first | decide | (simp [b_named, Bx.R]; done) | (simp [b_named, Bx.R]; omega))
  rw [eq1] at H32
  have H32 : Hr x b_named Z EL1 1 2 h1 [] 28 #[.val (.null), .val (.ref c), .val (.int (2 : Int32)), .val (.int (1 : Int32)), .val (.ref kf)] [.int (0 : Int32)] := H32
  have H33 : Hr x b_named Z EL1 1 2 h1 [] 34 #[.val (.null), .val (.ref c), .val (.int (2 : Int32)), .val (.int (1 : Int32)), .val (.ref kf)] [] := H32.ifT d_named_28 (XT.i0_eq_t rfl)
  have H34 : Hr x b_named Z EL1 1 2 h1 [] 37 #[.val (.null), .val (.ref c), .val (.int (2 : Int32)), .val (.int (2 : Int32)), .val (.ref kf)] [] := H33.iinc d_named_34 (v := (2 : Int32)) (hv := (by decide))
  have H35 : Hr x b_named Z EL1 1 2 h1 [] 9 #[.val (.null), .val (.ref c), .val (.int (2 : Int32)), .val (.int (2 : Int32)), .val (.ref kf)] [] := H34.goto d_named_37
  have H36 : Hr x b_named Z EL1 1 2 h1 [] 10 #[.val (.null), .val (.ref c), .val (.int (2 : Int32)), .val (.int (2 : Int32)), .val (.ref kf)] [.int (2 : Int32)] := H35.iloadN d_named_9
  have H37 : Hr x b_named Z EL1 1 2 h1 [] 11 #[.val (.null), .val (.ref c), .val (.int (2 : Int32)), .val (.int (2 : Int32)), .val (.ref kf)] [.int (2 : Int32), .int (2 : Int32)] := H36.iloadN d_named_10
  have H38 : Hr x b_named Z EL1 1 2 h1 [] 40 #[.val (.null), .val (.ref c), .val (.int (2 : Int32)), .val (.int (2 : Int32)), .val (.ref kf)] [] := H37.icmpT d_named_11 (XT.ii_ge_t (by decide))
  have H39 : Hr x b_named Z EL1 1 2 h1 [] 41 #[.val (.null), .val (.ref c), .val (.int (2 : Int32)), .val (.int (2 : Int32)), .val (.ref kf)] [.null] := H38.aconstNull d_named_40
  exact H39.finA d_named_41 ⟨rfl, rfl⟩ sub0
theorem chrL_rng (y : Int64) : ¬ (y &&& 255).toInt32.toUInt32.toUInt16.toUInt32.toInt32 < 0 ∧ ¬ 255 < (y &&& 255).toInt32.toUInt32.toUInt16.toUInt32.toInt32 := by
  have h := c_maskL y 255 8 (by omega) (by decide)
  have h2 := c_l2i (y &&& 255)
  have h3 := rng32 (y &&& 255).toInt32
  have h4 := c_i2c (y &&& 255).toInt32
  have e1 : (0 : Int32).toInt = 0 := by decide
  have e2 : (255 : Int32).toInt = 255 := by decide
  rw [Int32.lt_iff_toInt_lt, Int32.lt_iff_toInt_lt, e1, e2]
  omega
theorem Ar.seti {Z : State} {h h' : Heap} {a : Addr} {ty : FieldType} {ds : List Int32} {i : Nat} {w : Int32} (F : Ar Z h a ty (ds.map Value.int)) (W : Wr h h' a i (.int w)) : Ar Z h' a ty ((ds.set i w).map Value.int) := by
  have := F.set W
  rw [← List.map_set] at this; exact this
def Nine (ds : List Int32) : Prop := ds.length = 9 ∧ ∀ c ∈ ds, ¬ c < 0 ∧ ¬ 255 < c
theorem Nine.set {ds : List Int32} (N : Nine ds) (i : Nat) {w : Int32} (hw : ¬ w < 0 ∧ ¬ 255 < w) : Nine (ds.set i w) := ⟨by rw [List.length_set]; exact N.1, fun c hc => by
  rcases List.mem_or_eq_of_mem_set hc with q | q
  · exact N.2 c q
  · rw [q]; exact hw⟩
theorem mod9 (x : Int32) : ∃ i : Nat, i < 9 ∧ (x &&& 2147483647) % 9 = Int32.ofNat i := by
  have h := c_mask x 2147483647 31 (by omega) (by decide)
  have h2 := (c_irem (x &&& 2147483647) 9 9 (by decide)).1 (by omega)
  refine ⟨((x &&& 2147483647) % 9).toInt.toNat, by omega, Int32.toInt_inj.mp ?_⟩
  rw [toInt_of rfl (by omega)]
  omega
def b_at : Bx := (({ frames := 8, cells := 24, slots := 3264, locals := 192 } : Room), (⟨"com/example/pigeonhole/pigeonhole/cli/BrokerNamedPinLaw", "law", "(IJIII)Z"⟩ : MethodName), code, 11, ret)
theorem ef_at (p0 : Int32) (p1 : Int64) (p2 : Int32) (p3 : Int32) (p4 : Int32) (mI : MethodId) : entryFrame mI #[.int p0, .long p1, .int p2, .int p3, .int p4] 11 = mkF mI 0 #[.val (.int p0), .val (.long p1), .second, .val (.int p2), .val (.int p3), .val (.int p4), .unset, .unset, .unset, .unset, .unset] [] := by first | (simp [entryFrame, mkF, argsToLocals, Value.category]; done) | rfl
theorem pd_at : parseMethodDescriptor "(IJIII)Z" = some ⟨[.int, .long, .int, .int, .int], some .boolean⟩ := by decide +kernel
set_option maxRecDepth 65536 in
set_option maxHeartbeats 4000000 in
theorem ct_law {a0 : Array Value} {Z : State} (hw : ∀ d ∈ tables_1, d.before a0 Z = true) (l : Launch) (nar kn : Bool) (hnr : nar = false) (h0 : Heap) (p0 : Int32) (p1 : Int64) (p2 : Int32) (p3 : Int32) (p4 : Int32) (va rb kf : Addr) (cl : Cell) (Sv : Sta Z Z.heap "com/example/pigeonhole/pigeonhole/cli/Broker" "$VALUES" "[Lcom/example/pigeonhole/pigeonhole/cli/Broker;" (.ref va)) (Av : Arr Z Z.heap va cl (.object "com/example/pigeonhole/pigeonhole/cli/Broker")) (Ev : Exa Z Z.heap va "[Lcom/example/pigeonhole/pigeonhole/cli/Broker;") (Fv : FitC Z cl) (hcl : cl.slots.toList = [.ref rb, .ref kf]) (sr tr sk tk : Addr) (Gr : Fld Z Z.heap rb "com/example/pigeonhole/pigeonhole/cli/Broker" "settingValue" "Ljava/lang/String;" (.ref sr)) (Gk : Fld Z Z.heap kf "com/example/pigeonhole/pigeonhole/cli/Broker" "settingValue" "Ljava/lang/String;" (.ref sk)) (Tr : Str Z Z.heap sr tr tR) (Tk : Str Z Z.heap sk tk tK) (Sr : Sta Z Z.heap "com/example/pigeonhole/pigeonhole/cli/Broker" "RABBITMQ" "Lcom/example/pigeonhole/pigeonhole/cli/Broker;" (.ref rb)) (Sk : Sta Z Z.heap "com/example/pigeonhole/pigeonhole/cli/Broker" "KAFKA" "Lcom/example/pigeonhole/pigeonhole/cli/Broker;" (.ref kf)) (cz : Int32) (O : Sta Z Z.heap "java/lang/String" "COMPACT_STRINGS" "Z" (.int cz)) (hcz : ¬ cz = 0) :
    Ct l Z EL1 (⟨"com/example/pigeonhole/pigeonhole/cli/BrokerNamedPinLaw", "law", "(IJIII)Z"⟩ : MethodName) code 11 ret ({ frames := 8, cells := 24, slots := 3264, locals := 192 } : Room) #[.int p0, .long p1, .int p2, .int p3, .int p4] h0 [] nar kn (fun v h sn => v = some (.int 1) ∧ sn = []) := by
  refine Ct.intro (plainFor_of_name pn_com_example_pigeonhole_pigeonhole_cli_BrokerNamedPinLaw) (ew hw) (ef_at p0 p1 p2 p3 p4) ?_
  intro x hl hn0 hkn hsf hh H0
  have hnar : x.nar = false := hn0.trans hnr
  have H0 : Hr x b_at Z EL1 0 0 h0 [] 0 #[.val (.int p0), .val (.long p1), .second, .val (.int p2), .val (.int p3), .val (.int p4), .unset, .unset, .unset, .unset, .unset] [] := H0
  have H1 : Hr x b_at Z EL1 0 0 h0 [] 2 #[.val (.int p0), .val (.long p1), .second, .val (.int p2), .val (.int p3), .val (.int p4), .unset, .unset, .unset, .unset, .unset] [.int (9 : Int32)] := H0.bipush at_0
  obtain ⟨h1, E1, F1, H2⟩ := H1.newarray (aty := .char) (cap := 9) (w0 hw) at_2 (by decide) (by decide) (by decide) (by first | decide | (simp [b_at, Bx.R]; done) | (simp [b_at, Bx.R]; omega)) (by first | decide | (simp [b_at, Bx.R]; done) | (simp [b_at, Bx.R]; omega))
  obtain ⟨ca, g_ca⟩ : ∃ z, z = h0.size := ⟨_, rfl⟩
  rw [← g_ca] at F1 H2
  have F1 : Ar Z h1 ca .char (([0, 0, 0, 0, 0, 0, 0, 0, 0] : List Int32).map Value.int) := F1
  have H2 : Hr x b_at Z EL1 1 9 h1 [ca] 4 #[.val (.int p0), .val (.long p1), .second, .val (.int p2), .val (.int p3), .val (.int p4), .unset, .unset, .unset, .unset, .unset] [.ref ca] := H2
  have N1 : Nine [0, 0, 0, 0, 0, 0, 0, 0, 0] := ⟨rfl, by decide⟩
  obtain ⟨ds1, hds1⟩ : ∃ z : List Int32, z = [0, 0, 0, 0, 0, 0, 0, 0, 0] := ⟨_, rfl⟩
  rw [← hds1] at F1 N1
  have H3 : Hr x b_at Z EL1 1 9 h1 [ca] 6 #[.val (.int p0), .val (.long p1), .second, .val (.int p2), .val (.int p3), .val (.int p4), .val (.ref ca), .unset, .unset, .unset, .unset] [] := H2.astore at_4
  have H4 : Hr x b_at Z EL1 1 9 h1 [ca] 8 #[.val (.int p0), .val (.long p1), .second, .val (.int p2), .val (.int p3), .val (.int p4), .val (.ref ca), .unset, .unset, .unset, .unset] [.ref ca] := H3.aload at_6
  have H5 : Hr x b_at Z EL1 1 9 h1 [ca] 9 #[.val (.int p0), .val (.long p1), .second, .val (.int p2), .val (.int p3), .val (.int p4), .val (.ref ca), .unset, .unset, .unset, .unset] [.int (0 : Int32), .ref ca] := H4.iconst at_8
  have H6 : Hr x b_at Z EL1 1 9 h1 [ca] 10 #[.val (.int p0), .val (.long p1), .second, .val (.int p2), .val (.int p3), .val (.int p4), .val (.ref ca), .unset, .unset, .unset, .unset] [.long p1, .int (0 : Int32), .ref ca] := H5.lloadN at_9
  have H7 : Hr x b_at Z EL1 1 9 h1 [ca] 13 #[.val (.int p0), .val (.long p1), .second, .val (.int p2), .val (.int p3), .val (.int p4), .val (.ref ca), .unset, .unset, .unset, .unset] [.long (255 : Int64), .long p1, .int (0 : Int32), .ref ca] := H6.ldcL (w1 hw) at_10
  have H8 : Hr x b_at Z EL1 1 9 h1 [ca] 14 #[.val (.int p0), .val (.long p1), .second, .val (.int p2), .val (.int p3), .val (.int p4), .val (.ref ca), .unset, .unset, .unset, .unset] [.long (p1 &&& (255 : Int64)), .int (0 : Int32), .ref ca] := H7.land at_13
  have H9 : Hr x b_at Z EL1 1 9 h1 [ca] 15 #[.val (.int p0), .val (.long p1), .second, .val (.int p2), .val (.int p3), .val (.int p4), .val (.ref ca), .unset, .unset, .unset, .unset] [.int ((p1 &&& (255 : Int64)).toInt32), .int (0 : Int32), .ref ca] := H8.l2i at_14
  have H10 : Hr x b_at Z EL1 1 9 h1 [ca] 16 #[.val (.int p0), .val (.long p1), .second, .val (.int p2), .val (.int p3), .val (.int p4), .val (.ref ca), .unset, .unset, .unset, .unset] [.int (((p1 &&& (255 : Int64)).toInt32).toUInt32.toUInt16.toUInt32.toInt32), .int (0 : Int32), .ref ca] := H9.i2c at_15
  obtain ⟨hc1, Wc1, H11⟩ := H10.castore (by simp) F1 at_16 (i := 0) rfl (by rw [List.length_map, N1.1]; omega) (hw := (nar_c (chrL_rng p1).1 (chrL_rng p1).2))
  have H11 : Hr x b_at Z EL1 1 9 hc1 [ca] 17 #[.val (.int p0), .val (.long p1), .second, .val (.int p2), .val (.int p3), .val (.int p4), .val (.ref ca), .unset, .unset, .unset, .unset] [] := H11
  have F1_1 := F1.seti Wc1
  have N1_1 := N1.set 0 (chrL_rng p1)
  have H12 : Hr x b_at Z EL1 1 9 hc1 [ca] 19 #[.val (.int p0), .val (.long p1), .second, .val (.int p2), .val (.int p3), .val (.int p4), .val (.ref ca), .unset, .unset, .unset, .unset] [.ref ca] := H11.aload at_17
  have H13 : Hr x b_at Z EL1 1 9 hc1 [ca] 20 #[.val (.int p0), .val (.long p1), .second, .val (.int p2), .val (.int p3), .val (.int p4), .val (.ref ca), .unset, .unset, .unset, .unset] [.int (1 : Int32), .ref ca] := H12.iconst at_19
  have H14 : Hr x b_at Z EL1 1 9 hc1 [ca] 21 #[.val (.int p0), .val (.long p1), .second, .val (.int p2), .val (.int p3), .val (.int p4), .val (.ref ca), .unset, .unset, .unset, .unset] [.long p1, .int (1 : Int32), .ref ca] := H13.lloadN at_20
  have H15 : Hr x b_at Z EL1 1 9 hc1 [ca] 23 #[.val (.int p0), .val (.long p1), .second, .val (.int p2), .val (.int p3), .val (.int p4), .val (.ref ca), .unset, .unset, .unset, .unset] [.int (8 : Int32), .long p1, .int (1 : Int32), .ref ca] := H14.bipush at_21
  have H16 : Hr x b_at Z EL1 1 9 hc1 [ca] 24 #[.val (.int p0), .val (.long p1), .second, .val (.int p2), .val (.int p3), .val (.int p4), .val (.ref ca), .unset, .unset, .unset, .unset] [.long (XT.ushrL p1 (8 : Int32)), .int (1 : Int32), .ref ca] := H15.lushr at_23
  have H17 : Hr x b_at Z EL1 1 9 hc1 [ca] 27 #[.val (.int p0), .val (.long p1), .second, .val (.int p2), .val (.int p3), .val (.int p4), .val (.ref ca), .unset, .unset, .unset, .unset] [.long (255 : Int64), .long (XT.ushrL p1 (8 : Int32)), .int (1 : Int32), .ref ca] := H16.ldcL (w1 hw) at_24
  have H18 : Hr x b_at Z EL1 1 9 hc1 [ca] 28 #[.val (.int p0), .val (.long p1), .second, .val (.int p2), .val (.int p3), .val (.int p4), .val (.ref ca), .unset, .unset, .unset, .unset] [.long ((XT.ushrL p1 (8 : Int32)) &&& (255 : Int64)), .int (1 : Int32), .ref ca] := H17.land at_27
  have H19 : Hr x b_at Z EL1 1 9 hc1 [ca] 29 #[.val (.int p0), .val (.long p1), .second, .val (.int p2), .val (.int p3), .val (.int p4), .val (.ref ca), .unset, .unset, .unset, .unset] [.int (((XT.ushrL p1 (8 : Int32)) &&& (255 : Int64)).toInt32), .int (1 : Int32), .ref ca] := H18.l2i at_28
  have H20 : Hr x b_at Z EL1 1 9 hc1 [ca] 30 #[.val (.int p0), .val (.long p1), .second, .val (.int p2), .val (.int p3), .val (.int p4), .val (.ref ca), .unset, .unset, .unset, .unset] [.int ((((XT.ushrL p1 (8 : Int32)) &&& (255 : Int64)).toInt32).toUInt32.toUInt16.toUInt32.toInt32), .int (1 : Int32), .ref ca] := H19.i2c at_29
  obtain ⟨hc2, Wc2, H21⟩ := H20.castore (by simp) F1_1 at_30 (i := 1) rfl (by rw [List.length_map, N1_1.1]; omega) (hw := (nar_c (chrL_rng (XT.ushrL p1 (8 : Int32))).1 (chrL_rng (XT.ushrL p1 (8 : Int32))).2))
  have H21 : Hr x b_at Z EL1 1 9 hc2 [ca] 31 #[.val (.int p0), .val (.long p1), .second, .val (.int p2), .val (.int p3), .val (.int p4), .val (.ref ca), .unset, .unset, .unset, .unset] [] := H21
  have F1_2 := F1_1.seti Wc2
  have N1_2 := N1_1.set 1 (chrL_rng (XT.ushrL p1 (8 : Int32)))
  have H22 : Hr x b_at Z EL1 1 9 hc2 [ca] 33 #[.val (.int p0), .val (.long p1), .second, .val (.int p2), .val (.int p3), .val (.int p4), .val (.ref ca), .unset, .unset, .unset, .unset] [.ref ca] := H21.aload at_31
  have H23 : Hr x b_at Z EL1 1 9 hc2 [ca] 34 #[.val (.int p0), .val (.long p1), .second, .val (.int p2), .val (.int p3), .val (.int p4), .val (.ref ca), .unset, .unset, .unset, .unset] [.int (2 : Int32), .ref ca] := H22.iconst at_33
  have H24 : Hr x b_at Z EL1 1 9 hc2 [ca] 35 #[.val (.int p0), .val (.long p1), .second, .val (.int p2), .val (.int p3), .val (.int p4), .val (.ref ca), .unset, .unset, .unset, .unset] [.long p1, .int (2 : Int32), .ref ca] := H23.lloadN at_34
  have H25 : Hr x b_at Z EL1 1 9 hc2 [ca] 37 #[.val (.int p0), .val (.long p1), .second, .val (.int p2), .val (.int p3), .val (.int p4), .val (.ref ca), .unset, .unset, .unset, .unset] [.int (16 : Int32), .long p1, .int (2 : Int32), .ref ca] := H24.bipush at_35
  have H26 : Hr x b_at Z EL1 1 9 hc2 [ca] 38 #[.val (.int p0), .val (.long p1), .second, .val (.int p2), .val (.int p3), .val (.int p4), .val (.ref ca), .unset, .unset, .unset, .unset] [.long (XT.ushrL p1 (16 : Int32)), .int (2 : Int32), .ref ca] := H25.lushr at_37
  have H27 : Hr x b_at Z EL1 1 9 hc2 [ca] 41 #[.val (.int p0), .val (.long p1), .second, .val (.int p2), .val (.int p3), .val (.int p4), .val (.ref ca), .unset, .unset, .unset, .unset] [.long (255 : Int64), .long (XT.ushrL p1 (16 : Int32)), .int (2 : Int32), .ref ca] := H26.ldcL (w1 hw) at_38
  have H28 : Hr x b_at Z EL1 1 9 hc2 [ca] 42 #[.val (.int p0), .val (.long p1), .second, .val (.int p2), .val (.int p3), .val (.int p4), .val (.ref ca), .unset, .unset, .unset, .unset] [.long ((XT.ushrL p1 (16 : Int32)) &&& (255 : Int64)), .int (2 : Int32), .ref ca] := H27.land at_41
  have H29 : Hr x b_at Z EL1 1 9 hc2 [ca] 43 #[.val (.int p0), .val (.long p1), .second, .val (.int p2), .val (.int p3), .val (.int p4), .val (.ref ca), .unset, .unset, .unset, .unset] [.int (((XT.ushrL p1 (16 : Int32)) &&& (255 : Int64)).toInt32), .int (2 : Int32), .ref ca] := H28.l2i at_42
  have H30 : Hr x b_at Z EL1 1 9 hc2 [ca] 44 #[.val (.int p0), .val (.long p1), .second, .val (.int p2), .val (.int p3), .val (.int p4), .val (.ref ca), .unset, .unset, .unset, .unset] [.int ((((XT.ushrL p1 (16 : Int32)) &&& (255 : Int64)).toInt32).toUInt32.toUInt16.toUInt32.toInt32), .int (2 : Int32), .ref ca] := H29.i2c at_43
  obtain ⟨hc3, Wc3, H31⟩ := H30.castore (by simp) F1_2 at_44 (i := 2) rfl (by rw [List.length_map, N1_2.1]; omega) (hw := (nar_c (chrL_rng (XT.ushrL p1 (16 : Int32))).1 (chrL_rng (XT.ushrL p1 (16 : Int32))).2))
  have H31 : Hr x b_at Z EL1 1 9 hc3 [ca] 45 #[.val (.int p0), .val (.long p1), .second, .val (.int p2), .val (.int p3), .val (.int p4), .val (.ref ca), .unset, .unset, .unset, .unset] [] := H31
  have F1_3 := F1_2.seti Wc3
  have N1_3 := N1_2.set 2 (chrL_rng (XT.ushrL p1 (16 : Int32)))
  have H32 : Hr x b_at Z EL1 1 9 hc3 [ca] 47 #[.val (.int p0), .val (.long p1), .second, .val (.int p2), .val (.int p3), .val (.int p4), .val (.ref ca), .unset, .unset, .unset, .unset] [.ref ca] := H31.aload at_45
  have H33 : Hr x b_at Z EL1 1 9 hc3 [ca] 48 #[.val (.int p0), .val (.long p1), .second, .val (.int p2), .val (.int p3), .val (.int p4), .val (.ref ca), .unset, .unset, .unset, .unset] [.int (3 : Int32), .ref ca] := H32.iconst at_47
  have H34 : Hr x b_at Z EL1 1 9 hc3 [ca] 49 #[.val (.int p0), .val (.long p1), .second, .val (.int p2), .val (.int p3), .val (.int p4), .val (.ref ca), .unset, .unset, .unset, .unset] [.long p1, .int (3 : Int32), .ref ca] := H33.lloadN at_48
  have H35 : Hr x b_at Z EL1 1 9 hc3 [ca] 51 #[.val (.int p0), .val (.long p1), .second, .val (.int p2), .val (.int p3), .val (.int p4), .val (.ref ca), .unset, .unset, .unset, .unset] [.int (24 : Int32), .long p1, .int (3 : Int32), .ref ca] := H34.bipush at_49
  have H36 : Hr x b_at Z EL1 1 9 hc3 [ca] 52 #[.val (.int p0), .val (.long p1), .second, .val (.int p2), .val (.int p3), .val (.int p4), .val (.ref ca), .unset, .unset, .unset, .unset] [.long (XT.ushrL p1 (24 : Int32)), .int (3 : Int32), .ref ca] := H35.lushr at_51
  have H37 : Hr x b_at Z EL1 1 9 hc3 [ca] 55 #[.val (.int p0), .val (.long p1), .second, .val (.int p2), .val (.int p3), .val (.int p4), .val (.ref ca), .unset, .unset, .unset, .unset] [.long (255 : Int64), .long (XT.ushrL p1 (24 : Int32)), .int (3 : Int32), .ref ca] := H36.ldcL (w1 hw) at_52
  have H38 : Hr x b_at Z EL1 1 9 hc3 [ca] 56 #[.val (.int p0), .val (.long p1), .second, .val (.int p2), .val (.int p3), .val (.int p4), .val (.ref ca), .unset, .unset, .unset, .unset] [.long ((XT.ushrL p1 (24 : Int32)) &&& (255 : Int64)), .int (3 : Int32), .ref ca] := H37.land at_55
  have H39 : Hr x b_at Z EL1 1 9 hc3 [ca] 57 #[.val (.int p0), .val (.long p1), .second, .val (.int p2), .val (.int p3), .val (.int p4), .val (.ref ca), .unset, .unset, .unset, .unset] [.int (((XT.ushrL p1 (24 : Int32)) &&& (255 : Int64)).toInt32), .int (3 : Int32), .ref ca] := H38.l2i at_56
  have H40 : Hr x b_at Z EL1 1 9 hc3 [ca] 58 #[.val (.int p0), .val (.long p1), .second, .val (.int p2), .val (.int p3), .val (.int p4), .val (.ref ca), .unset, .unset, .unset, .unset] [.int ((((XT.ushrL p1 (24 : Int32)) &&& (255 : Int64)).toInt32).toUInt32.toUInt16.toUInt32.toInt32), .int (3 : Int32), .ref ca] := H39.i2c at_57
  obtain ⟨hc4, Wc4, H41⟩ := H40.castore (by simp) F1_3 at_58 (i := 3) rfl (by rw [List.length_map, N1_3.1]; omega) (hw := (nar_c (chrL_rng (XT.ushrL p1 (24 : Int32))).1 (chrL_rng (XT.ushrL p1 (24 : Int32))).2))
  have H41 : Hr x b_at Z EL1 1 9 hc4 [ca] 59 #[.val (.int p0), .val (.long p1), .second, .val (.int p2), .val (.int p3), .val (.int p4), .val (.ref ca), .unset, .unset, .unset, .unset] [] := H41
  have F1_4 := F1_3.seti Wc4
  have N1_4 := N1_3.set 3 (chrL_rng (XT.ushrL p1 (24 : Int32)))
  have H42 : Hr x b_at Z EL1 1 9 hc4 [ca] 61 #[.val (.int p0), .val (.long p1), .second, .val (.int p2), .val (.int p3), .val (.int p4), .val (.ref ca), .unset, .unset, .unset, .unset] [.ref ca] := H41.aload at_59
  have H43 : Hr x b_at Z EL1 1 9 hc4 [ca] 62 #[.val (.int p0), .val (.long p1), .second, .val (.int p2), .val (.int p3), .val (.int p4), .val (.ref ca), .unset, .unset, .unset, .unset] [.int (4 : Int32), .ref ca] := H42.iconst at_61
  have H44 : Hr x b_at Z EL1 1 9 hc4 [ca] 63 #[.val (.int p0), .val (.long p1), .second, .val (.int p2), .val (.int p3), .val (.int p4), .val (.ref ca), .unset, .unset, .unset, .unset] [.long p1, .int (4 : Int32), .ref ca] := H43.lloadN at_62
  have H45 : Hr x b_at Z EL1 1 9 hc4 [ca] 65 #[.val (.int p0), .val (.long p1), .second, .val (.int p2), .val (.int p3), .val (.int p4), .val (.ref ca), .unset, .unset, .unset, .unset] [.int (32 : Int32), .long p1, .int (4 : Int32), .ref ca] := H44.bipush at_63
  have H46 : Hr x b_at Z EL1 1 9 hc4 [ca] 66 #[.val (.int p0), .val (.long p1), .second, .val (.int p2), .val (.int p3), .val (.int p4), .val (.ref ca), .unset, .unset, .unset, .unset] [.long (XT.ushrL p1 (32 : Int32)), .int (4 : Int32), .ref ca] := H45.lushr at_65
  have H47 : Hr x b_at Z EL1 1 9 hc4 [ca] 69 #[.val (.int p0), .val (.long p1), .second, .val (.int p2), .val (.int p3), .val (.int p4), .val (.ref ca), .unset, .unset, .unset, .unset] [.long (255 : Int64), .long (XT.ushrL p1 (32 : Int32)), .int (4 : Int32), .ref ca] := H46.ldcL (w1 hw) at_66
  have H48 : Hr x b_at Z EL1 1 9 hc4 [ca] 70 #[.val (.int p0), .val (.long p1), .second, .val (.int p2), .val (.int p3), .val (.int p4), .val (.ref ca), .unset, .unset, .unset, .unset] [.long ((XT.ushrL p1 (32 : Int32)) &&& (255 : Int64)), .int (4 : Int32), .ref ca] := H47.land at_69
  have H49 : Hr x b_at Z EL1 1 9 hc4 [ca] 71 #[.val (.int p0), .val (.long p1), .second, .val (.int p2), .val (.int p3), .val (.int p4), .val (.ref ca), .unset, .unset, .unset, .unset] [.int (((XT.ushrL p1 (32 : Int32)) &&& (255 : Int64)).toInt32), .int (4 : Int32), .ref ca] := H48.l2i at_70
  have H50 : Hr x b_at Z EL1 1 9 hc4 [ca] 72 #[.val (.int p0), .val (.long p1), .second, .val (.int p2), .val (.int p3), .val (.int p4), .val (.ref ca), .unset, .unset, .unset, .unset] [.int ((((XT.ushrL p1 (32 : Int32)) &&& (255 : Int64)).toInt32).toUInt32.toUInt16.toUInt32.toInt32), .int (4 : Int32), .ref ca] := H49.i2c at_71
  obtain ⟨hc5, Wc5, H51⟩ := H50.castore (by simp) F1_4 at_72 (i := 4) rfl (by rw [List.length_map, N1_4.1]; omega) (hw := (nar_c (chrL_rng (XT.ushrL p1 (32 : Int32))).1 (chrL_rng (XT.ushrL p1 (32 : Int32))).2))
  have H51 : Hr x b_at Z EL1 1 9 hc5 [ca] 73 #[.val (.int p0), .val (.long p1), .second, .val (.int p2), .val (.int p3), .val (.int p4), .val (.ref ca), .unset, .unset, .unset, .unset] [] := H51
  have F1_5 := F1_4.seti Wc5
  have N1_5 := N1_4.set 4 (chrL_rng (XT.ushrL p1 (32 : Int32)))
  have H52 : Hr x b_at Z EL1 1 9 hc5 [ca] 75 #[.val (.int p0), .val (.long p1), .second, .val (.int p2), .val (.int p3), .val (.int p4), .val (.ref ca), .unset, .unset, .unset, .unset] [.ref ca] := H51.aload at_73
  have H53 : Hr x b_at Z EL1 1 9 hc5 [ca] 76 #[.val (.int p0), .val (.long p1), .second, .val (.int p2), .val (.int p3), .val (.int p4), .val (.ref ca), .unset, .unset, .unset, .unset] [.int (5 : Int32), .ref ca] := H52.iconst at_75
  have H54 : Hr x b_at Z EL1 1 9 hc5 [ca] 77 #[.val (.int p0), .val (.long p1), .second, .val (.int p2), .val (.int p3), .val (.int p4), .val (.ref ca), .unset, .unset, .unset, .unset] [.long p1, .int (5 : Int32), .ref ca] := H53.lloadN at_76
  have H55 : Hr x b_at Z EL1 1 9 hc5 [ca] 79 #[.val (.int p0), .val (.long p1), .second, .val (.int p2), .val (.int p3), .val (.int p4), .val (.ref ca), .unset, .unset, .unset, .unset] [.int (40 : Int32), .long p1, .int (5 : Int32), .ref ca] := H54.bipush at_77
  have H56 : Hr x b_at Z EL1 1 9 hc5 [ca] 80 #[.val (.int p0), .val (.long p1), .second, .val (.int p2), .val (.int p3), .val (.int p4), .val (.ref ca), .unset, .unset, .unset, .unset] [.long (XT.ushrL p1 (40 : Int32)), .int (5 : Int32), .ref ca] := H55.lushr at_79
  have H57 : Hr x b_at Z EL1 1 9 hc5 [ca] 83 #[.val (.int p0), .val (.long p1), .second, .val (.int p2), .val (.int p3), .val (.int p4), .val (.ref ca), .unset, .unset, .unset, .unset] [.long (255 : Int64), .long (XT.ushrL p1 (40 : Int32)), .int (5 : Int32), .ref ca] := H56.ldcL (w1 hw) at_80
  have H58 : Hr x b_at Z EL1 1 9 hc5 [ca] 84 #[.val (.int p0), .val (.long p1), .second, .val (.int p2), .val (.int p3), .val (.int p4), .val (.ref ca), .unset, .unset, .unset, .unset] [.long ((XT.ushrL p1 (40 : Int32)) &&& (255 : Int64)), .int (5 : Int32), .ref ca] := H57.land at_83
  have H59 : Hr x b_at Z EL1 1 9 hc5 [ca] 85 #[.val (.int p0), .val (.long p1), .second, .val (.int p2), .val (.int p3), .val (.int p4), .val (.ref ca), .unset, .unset, .unset, .unset] [.int (((XT.ushrL p1 (40 : Int32)) &&& (255 : Int64)).toInt32), .int (5 : Int32), .ref ca] := H58.l2i at_84
  have H60 : Hr x b_at Z EL1 1 9 hc5 [ca] 86 #[.val (.int p0), .val (.long p1), .second, .val (.int p2), .val (.int p3), .val (.int p4), .val (.ref ca), .unset, .unset, .unset, .unset] [.int ((((XT.ushrL p1 (40 : Int32)) &&& (255 : Int64)).toInt32).toUInt32.toUInt16.toUInt32.toInt32), .int (5 : Int32), .ref ca] := H59.i2c at_85
  obtain ⟨hc6, Wc6, H61⟩ := H60.castore (by simp) F1_5 at_86 (i := 5) rfl (by rw [List.length_map, N1_5.1]; omega) (hw := (nar_c (chrL_rng (XT.ushrL p1 (40 : Int32))).1 (chrL_rng (XT.ushrL p1 (40 : Int32))).2))
  have H61 : Hr x b_at Z EL1 1 9 hc6 [ca] 87 #[.val (.int p0), .val (.long p1), .second, .val (.int p2), .val (.int p3), .val (.int p4), .val (.ref ca), .unset, .unset, .unset, .unset] [] := H61
  have F1_6 := F1_5.seti Wc6
  have N1_6 := N1_5.set 5 (chrL_rng (XT.ushrL p1 (40 : Int32)))
  have H62 : Hr x b_at Z EL1 1 9 hc6 [ca] 89 #[.val (.int p0), .val (.long p1), .second, .val (.int p2), .val (.int p3), .val (.int p4), .val (.ref ca), .unset, .unset, .unset, .unset] [.ref ca] := H61.aload at_87
  have H63 : Hr x b_at Z EL1 1 9 hc6 [ca] 91 #[.val (.int p0), .val (.long p1), .second, .val (.int p2), .val (.int p3), .val (.int p4), .val (.ref ca), .unset, .unset, .unset, .unset] [.int (6 : Int32), .ref ca] := H62.bipush at_89
  have H64 : Hr x b_at Z EL1 1 9 hc6 [ca] 92 #[.val (.int p0), .val (.long p1), .second, .val (.int p2), .val (.int p3), .val (.int p4), .val (.ref ca), .unset, .unset, .unset, .unset] [.long p1, .int (6 : Int32), .ref ca] := H63.lloadN at_91
  have H65 : Hr x b_at Z EL1 1 9 hc6 [ca] 94 #[.val (.int p0), .val (.long p1), .second, .val (.int p2), .val (.int p3), .val (.int p4), .val (.ref ca), .unset, .unset, .unset, .unset] [.int (48 : Int32), .long p1, .int (6 : Int32), .ref ca] := H64.bipush at_92
  have H66 : Hr x b_at Z EL1 1 9 hc6 [ca] 95 #[.val (.int p0), .val (.long p1), .second, .val (.int p2), .val (.int p3), .val (.int p4), .val (.ref ca), .unset, .unset, .unset, .unset] [.long (XT.ushrL p1 (48 : Int32)), .int (6 : Int32), .ref ca] := H65.lushr at_94
  have H67 : Hr x b_at Z EL1 1 9 hc6 [ca] 98 #[.val (.int p0), .val (.long p1), .second, .val (.int p2), .val (.int p3), .val (.int p4), .val (.ref ca), .unset, .unset, .unset, .unset] [.long (255 : Int64), .long (XT.ushrL p1 (48 : Int32)), .int (6 : Int32), .ref ca] := H66.ldcL (w1 hw) at_95
  have H68 : Hr x b_at Z EL1 1 9 hc6 [ca] 99 #[.val (.int p0), .val (.long p1), .second, .val (.int p2), .val (.int p3), .val (.int p4), .val (.ref ca), .unset, .unset, .unset, .unset] [.long ((XT.ushrL p1 (48 : Int32)) &&& (255 : Int64)), .int (6 : Int32), .ref ca] := H67.land at_98
  have H69 : Hr x b_at Z EL1 1 9 hc6 [ca] 100 #[.val (.int p0), .val (.long p1), .second, .val (.int p2), .val (.int p3), .val (.int p4), .val (.ref ca), .unset, .unset, .unset, .unset] [.int (((XT.ushrL p1 (48 : Int32)) &&& (255 : Int64)).toInt32), .int (6 : Int32), .ref ca] := H68.l2i at_99
  have H70 : Hr x b_at Z EL1 1 9 hc6 [ca] 101 #[.val (.int p0), .val (.long p1), .second, .val (.int p2), .val (.int p3), .val (.int p4), .val (.ref ca), .unset, .unset, .unset, .unset] [.int ((((XT.ushrL p1 (48 : Int32)) &&& (255 : Int64)).toInt32).toUInt32.toUInt16.toUInt32.toInt32), .int (6 : Int32), .ref ca] := H69.i2c at_100
  obtain ⟨hc7, Wc7, H71⟩ := H70.castore (by simp) F1_6 at_101 (i := 6) rfl (by rw [List.length_map, N1_6.1]; omega) (hw := (nar_c (chrL_rng (XT.ushrL p1 (48 : Int32))).1 (chrL_rng (XT.ushrL p1 (48 : Int32))).2))
  have H71 : Hr x b_at Z EL1 1 9 hc7 [ca] 102 #[.val (.int p0), .val (.long p1), .second, .val (.int p2), .val (.int p3), .val (.int p4), .val (.ref ca), .unset, .unset, .unset, .unset] [] := H71
  have F1_7 := F1_6.seti Wc7
  have N1_7 := N1_6.set 6 (chrL_rng (XT.ushrL p1 (48 : Int32)))
  have H72 : Hr x b_at Z EL1 1 9 hc7 [ca] 104 #[.val (.int p0), .val (.long p1), .second, .val (.int p2), .val (.int p3), .val (.int p4), .val (.ref ca), .unset, .unset, .unset, .unset] [.ref ca] := H71.aload at_102
  have H73 : Hr x b_at Z EL1 1 9 hc7 [ca] 106 #[.val (.int p0), .val (.long p1), .second, .val (.int p2), .val (.int p3), .val (.int p4), .val (.ref ca), .unset, .unset, .unset, .unset] [.int (7 : Int32), .ref ca] := H72.bipush at_104
  have H74 : Hr x b_at Z EL1 1 9 hc7 [ca] 107 #[.val (.int p0), .val (.long p1), .second, .val (.int p2), .val (.int p3), .val (.int p4), .val (.ref ca), .unset, .unset, .unset, .unset] [.long p1, .int (7 : Int32), .ref ca] := H73.lloadN at_106
  have H75 : Hr x b_at Z EL1 1 9 hc7 [ca] 109 #[.val (.int p0), .val (.long p1), .second, .val (.int p2), .val (.int p3), .val (.int p4), .val (.ref ca), .unset, .unset, .unset, .unset] [.int (56 : Int32), .long p1, .int (7 : Int32), .ref ca] := H74.bipush at_107
  have H76 : Hr x b_at Z EL1 1 9 hc7 [ca] 110 #[.val (.int p0), .val (.long p1), .second, .val (.int p2), .val (.int p3), .val (.int p4), .val (.ref ca), .unset, .unset, .unset, .unset] [.long (XT.ushrL p1 (56 : Int32)), .int (7 : Int32), .ref ca] := H75.lushr at_109
  have H77 : Hr x b_at Z EL1 1 9 hc7 [ca] 113 #[.val (.int p0), .val (.long p1), .second, .val (.int p2), .val (.int p3), .val (.int p4), .val (.ref ca), .unset, .unset, .unset, .unset] [.long (255 : Int64), .long (XT.ushrL p1 (56 : Int32)), .int (7 : Int32), .ref ca] := H76.ldcL (w1 hw) at_110
  have H78 : Hr x b_at Z EL1 1 9 hc7 [ca] 114 #[.val (.int p0), .val (.long p1), .second, .val (.int p2), .val (.int p3), .val (.int p4), .val (.ref ca), .unset, .unset, .unset, .unset] [.long ((XT.ushrL p1 (56 : Int32)) &&& (255 : Int64)), .int (7 : Int32), .ref ca] := H77.land at_113
  have H79 : Hr x b_at Z EL1 1 9 hc7 [ca] 115 #[.val (.int p0), .val (.long p1), .second, .val (.int p2), .val (.int p3), .val (.int p4), .val (.ref ca), .unset, .unset, .unset, .unset] [.int (((XT.ushrL p1 (56 : Int32)) &&& (255 : Int64)).toInt32), .int (7 : Int32), .ref ca] := H78.l2i at_114
  have H80 : Hr x b_at Z EL1 1 9 hc7 [ca] 116 #[.val (.int p0), .val (.long p1), .second, .val (.int p2), .val (.int p3), .val (.int p4), .val (.ref ca), .unset, .unset, .unset, .unset] [.int ((((XT.ushrL p1 (56 : Int32)) &&& (255 : Int64)).toInt32).toUInt32.toUInt16.toUInt32.toInt32), .int (7 : Int32), .ref ca] := H79.i2c at_115
  obtain ⟨hc8, Wc8, H81⟩ := H80.castore (by simp) F1_7 at_116 (i := 7) rfl (by rw [List.length_map, N1_7.1]; omega) (hw := (nar_c (chrL_rng (XT.ushrL p1 (56 : Int32))).1 (chrL_rng (XT.ushrL p1 (56 : Int32))).2))
  have H81 : Hr x b_at Z EL1 1 9 hc8 [ca] 117 #[.val (.int p0), .val (.long p1), .second, .val (.int p2), .val (.int p3), .val (.int p4), .val (.ref ca), .unset, .unset, .unset, .unset] [] := H81
  have F1_8 := F1_7.seti Wc8
  have N1_8 := N1_7.set 7 (chrL_rng (XT.ushrL p1 (56 : Int32)))
  have H82 : Hr x b_at Z EL1 1 9 hc8 [ca] 119 #[.val (.int p0), .val (.long p1), .second, .val (.int p2), .val (.int p3), .val (.int p4), .val (.ref ca), .unset, .unset, .unset, .unset] [.ref ca] := H81.aload at_117
  have H83 : Hr x b_at Z EL1 1 9 hc8 [ca] 121 #[.val (.int p0), .val (.long p1), .second, .val (.int p2), .val (.int p3), .val (.int p4), .val (.ref ca), .unset, .unset, .unset, .unset] [.int (8 : Int32), .ref ca] := H82.bipush at_119
  have H84 : Hr x b_at Z EL1 1 9 hc8 [ca] 122 #[.val (.int p0), .val (.long p1), .second, .val (.int p2), .val (.int p3), .val (.int p4), .val (.ref ca), .unset, .unset, .unset, .unset] [.int p2, .int (8 : Int32), .ref ca] := H83.iloadN at_121
  have H85 : Hr x b_at Z EL1 1 9 hc8 [ca] 125 #[.val (.int p0), .val (.long p1), .second, .val (.int p2), .val (.int p3), .val (.int p4), .val (.ref ca), .unset, .unset, .unset, .unset] [.int (255 : Int32), .int p2, .int (8 : Int32), .ref ca] := H84.sipush at_122
  have H86 : Hr x b_at Z EL1 1 9 hc8 [ca] 126 #[.val (.int p0), .val (.long p1), .second, .val (.int p2), .val (.int p3), .val (.int p4), .val (.ref ca), .unset, .unset, .unset, .unset] [.int (p2 &&& (255 : Int32)), .int (8 : Int32), .ref ca] := H85.iand at_125
  have H87 : Hr x b_at Z EL1 1 9 hc8 [ca] 127 #[.val (.int p0), .val (.long p1), .second, .val (.int p2), .val (.int p3), .val (.int p4), .val (.ref ca), .unset, .unset, .unset, .unset] [.int ((p2 &&& (255 : Int32)).toUInt32.toUInt16.toUInt32.toInt32), .int (8 : Int32), .ref ca] := H86.i2c at_126
  obtain ⟨hc9, Wc9, H88⟩ := H87.castore (by simp) F1_8 at_127 (i := 8) rfl (by rw [List.length_map, N1_8.1]; omega) (hw := (nar_c (chr_rng p2).1 (chr_rng p2).2))
  have H88 : Hr x b_at Z EL1 1 9 hc9 [ca] 128 #[.val (.int p0), .val (.long p1), .second, .val (.int p2), .val (.int p3), .val (.int p4), .val (.ref ca), .unset, .unset, .unset, .unset] [] := H88
  have F1_9 := F1_8.seti Wc9
  have N1_9 := N1_8.set 8 (chr_rng p2)
  have H89 : Hr x b_at Z EL1 1 9 hc9 [ca] 129 #[.val (.int p0), .val (.long p1), .second, .val (.int p2), .val (.int p3), .val (.int p4), .val (.ref ca), .unset, .unset, .unset, .unset] [.int p0] := H88.iloadN at_128
  have H90 : Hr x b_at Z EL1 1 9 hc9 [ca] 130 #[.val (.int p0), .val (.long p1), .second, .val (.int p2), .val (.int p3), .val (.int p4), .val (.ref ca), .unset, .unset, .unset, .unset] [.int (3 : Int32), .int p0] := H89.iconst at_129
  have H91 : Hr x b_at Z EL1 1 9 hc9 [ca] 131 #[.val (.int p0), .val (.long p1), .second, .val (.int p2), .val (.int p3), .val (.int p4), .val (.ref ca), .unset, .unset, .unset, .unset] [.int (p0 &&& (3 : Int32))] := H90.iand at_130
  have H92 : Hr x b_at Z EL1 1 9 hc9 [ca] 133 #[.val (.int p0), .val (.long p1), .second, .val (.int p2), .val (.int p3), .val (.int p4), .val (.ref ca), .val (.int (p0 &&& (3 : Int32))), .unset, .unset, .unset] [] := H91.istore at_131
  have H93 : Hr x b_at Z EL1 1 9 hc9 [ca] 135 #[.val (.int p0), .val (.long p1), .second, .val (.int p2), .val (.int p3), .val (.int p4), .val (.ref ca), .val (.int (p0 &&& (3 : Int32))), .unset, .unset, .unset] [.int (p0 &&& (3 : Int32))] := H92.iload at_133
  obtain ⟨h2, ds2, N2, F2, H94⟩ : ∃ (h2 : Heap) (ds2 : List Int32), Nine ds2 ∧ Ar Z h2 ca .char (ds2.map Value.int) ∧ Hr x b_at Z EL1 1 9 h2 [ca] 286 #[.val (.int p0), .val (.long p1), .second, .val (.int p2), .val (.int p3), .val (.int p4), .val (.ref ca), .val (.int (p0 &&& (3 : Int32))), .unset, .unset, .unset] [] := by
    by_cases b0 : (p0 &&& (3 : Int32)) = 0
    · have z94 := b0
      have H95 : Hr x b_at Z EL1 1 9 hc9 [ca] 138 #[.val (.int p0), .val (.long p1), .second, .val (.int p2), .val (.int p3), .val (.int p4), .val (.ref ca), .val (.int (p0 &&& (3 : Int32))), .unset, .unset, .unset] [] := H93.ifF at_135 (XT.i0_ne_f b0)
      have H96 : Hr x b_at Z EL1 1 9 hc9 [ca] 140 #[.val (.int p0), .val (.long p1), .second, .val (.int p2), .val (.int p3), .val (.int p4), .val (.ref ca), .val (.int (p0 &&& (3 : Int32))), .unset, .unset, .unset] [.ref ca] := H95.aload at_138
      have H97 : Hr x b_at Z EL1 1 9 hc9 [ca] 141 #[.val (.int p0), .val (.long p1), .second, .val (.int p2), .val (.int p3), .val (.int p4), .val (.ref ca), .val (.int (p0 &&& (3 : Int32))), .unset, .unset, .unset] [.int (0 : Int32), .ref ca] := H96.iconst at_140
      have H98 : Hr x b_at Z EL1 1 9 hc9 [ca] 143 #[.val (.int p0), .val (.long p1), .second, .val (.int p2), .val (.int p3), .val (.int p4), .val (.ref ca), .val (.int (p0 &&& (3 : Int32))), .unset, .unset, .unset] [.int (107 : Int32), .int (0 : Int32), .ref ca] := H97.bipush at_141
      obtain ⟨hc10, Wc10, H99⟩ := H98.castore (by simp) F1_9 at_143 (i := 0) rfl (by rw [List.length_map, N1_9.1]; omega) (hw := (nar_c ((by decide : ¬ (107 : Int32) < 0 ∧ ¬ (255 : Int32) < 107)).1 ((by decide : ¬ (107 : Int32) < 0 ∧ ¬ (255 : Int32) < 107)).2))
      have H99 : Hr x b_at Z EL1 1 9 hc10 [ca] 144 #[.val (.int p0), .val (.long p1), .second, .val (.int p2), .val (.int p3), .val (.int p4), .val (.ref ca), .val (.int (p0 &&& (3 : Int32))), .unset, .unset, .unset] [] := H99
      have F1_10 := F1_9.seti Wc10
      have N1_10 := N1_9.set 0 ((by decide : ¬ (107 : Int32) < 0 ∧ ¬ (255 : Int32) < 107))
      have H100 : Hr x b_at Z EL1 1 9 hc10 [ca] 146 #[.val (.int p0), .val (.long p1), .second, .val (.int p2), .val (.int p3), .val (.int p4), .val (.ref ca), .val (.int (p0 &&& (3 : Int32))), .unset, .unset, .unset] [.ref ca] := H99.aload at_144
      have H101 : Hr x b_at Z EL1 1 9 hc10 [ca] 147 #[.val (.int p0), .val (.long p1), .second, .val (.int p2), .val (.int p3), .val (.int p4), .val (.ref ca), .val (.int (p0 &&& (3 : Int32))), .unset, .unset, .unset] [.int (1 : Int32), .ref ca] := H100.iconst at_146
      have H102 : Hr x b_at Z EL1 1 9 hc10 [ca] 149 #[.val (.int p0), .val (.long p1), .second, .val (.int p2), .val (.int p3), .val (.int p4), .val (.ref ca), .val (.int (p0 &&& (3 : Int32))), .unset, .unset, .unset] [.int (97 : Int32), .int (1 : Int32), .ref ca] := H101.bipush at_147
      obtain ⟨hc11, Wc11, H103⟩ := H102.castore (by simp) F1_10 at_149 (i := 1) rfl (by rw [List.length_map, N1_10.1]; omega) (hw := (nar_c ((by decide : ¬ (97 : Int32) < 0 ∧ ¬ (255 : Int32) < 97)).1 ((by decide : ¬ (97 : Int32) < 0 ∧ ¬ (255 : Int32) < 97)).2))
      have H103 : Hr x b_at Z EL1 1 9 hc11 [ca] 150 #[.val (.int p0), .val (.long p1), .second, .val (.int p2), .val (.int p3), .val (.int p4), .val (.ref ca), .val (.int (p0 &&& (3 : Int32))), .unset, .unset, .unset] [] := H103
      have F1_11 := F1_10.seti Wc11
      have N1_11 := N1_10.set 1 ((by decide : ¬ (97 : Int32) < 0 ∧ ¬ (255 : Int32) < 97))
      have H104 : Hr x b_at Z EL1 1 9 hc11 [ca] 152 #[.val (.int p0), .val (.long p1), .second, .val (.int p2), .val (.int p3), .val (.int p4), .val (.ref ca), .val (.int (p0 &&& (3 : Int32))), .unset, .unset, .unset] [.ref ca] := H103.aload at_150
      have H105 : Hr x b_at Z EL1 1 9 hc11 [ca] 153 #[.val (.int p0), .val (.long p1), .second, .val (.int p2), .val (.int p3), .val (.int p4), .val (.ref ca), .val (.int (p0 &&& (3 : Int32))), .unset, .unset, .unset] [.int (2 : Int32), .ref ca] := H104.iconst at_152
      have H106 : Hr x b_at Z EL1 1 9 hc11 [ca] 155 #[.val (.int p0), .val (.long p1), .second, .val (.int p2), .val (.int p3), .val (.int p4), .val (.ref ca), .val (.int (p0 &&& (3 : Int32))), .unset, .unset, .unset] [.int (102 : Int32), .int (2 : Int32), .ref ca] := H105.bipush at_153
      obtain ⟨hc12, Wc12, H107⟩ := H106.castore (by simp) F1_11 at_155 (i := 2) rfl (by rw [List.length_map, N1_11.1]; omega) (hw := (nar_c ((by decide : ¬ (102 : Int32) < 0 ∧ ¬ (255 : Int32) < 102)).1 ((by decide : ¬ (102 : Int32) < 0 ∧ ¬ (255 : Int32) < 102)).2))
      have H107 : Hr x b_at Z EL1 1 9 hc12 [ca] 156 #[.val (.int p0), .val (.long p1), .second, .val (.int p2), .val (.int p3), .val (.int p4), .val (.ref ca), .val (.int (p0 &&& (3 : Int32))), .unset, .unset, .unset] [] := H107
      have F1_12 := F1_11.seti Wc12
      have N1_12 := N1_11.set 2 ((by decide : ¬ (102 : Int32) < 0 ∧ ¬ (255 : Int32) < 102))
      have H108 : Hr x b_at Z EL1 1 9 hc12 [ca] 158 #[.val (.int p0), .val (.long p1), .second, .val (.int p2), .val (.int p3), .val (.int p4), .val (.ref ca), .val (.int (p0 &&& (3 : Int32))), .unset, .unset, .unset] [.ref ca] := H107.aload at_156
      have H109 : Hr x b_at Z EL1 1 9 hc12 [ca] 159 #[.val (.int p0), .val (.long p1), .second, .val (.int p2), .val (.int p3), .val (.int p4), .val (.ref ca), .val (.int (p0 &&& (3 : Int32))), .unset, .unset, .unset] [.int (3 : Int32), .ref ca] := H108.iconst at_158
      have H110 : Hr x b_at Z EL1 1 9 hc12 [ca] 161 #[.val (.int p0), .val (.long p1), .second, .val (.int p2), .val (.int p3), .val (.int p4), .val (.ref ca), .val (.int (p0 &&& (3 : Int32))), .unset, .unset, .unset] [.int (107 : Int32), .int (3 : Int32), .ref ca] := H109.bipush at_159
      obtain ⟨hc13, Wc13, H111⟩ := H110.castore (by simp) F1_12 at_161 (i := 3) rfl (by rw [List.length_map, N1_12.1]; omega) (hw := (nar_c ((by decide : ¬ (107 : Int32) < 0 ∧ ¬ (255 : Int32) < 107)).1 ((by decide : ¬ (107 : Int32) < 0 ∧ ¬ (255 : Int32) < 107)).2))
      have H111 : Hr x b_at Z EL1 1 9 hc13 [ca] 162 #[.val (.int p0), .val (.long p1), .second, .val (.int p2), .val (.int p3), .val (.int p4), .val (.ref ca), .val (.int (p0 &&& (3 : Int32))), .unset, .unset, .unset] [] := H111
      have F1_13 := F1_12.seti Wc13
      have N1_13 := N1_12.set 3 ((by decide : ¬ (107 : Int32) < 0 ∧ ¬ (255 : Int32) < 107))
      have H112 : Hr x b_at Z EL1 1 9 hc13 [ca] 164 #[.val (.int p0), .val (.long p1), .second, .val (.int p2), .val (.int p3), .val (.int p4), .val (.ref ca), .val (.int (p0 &&& (3 : Int32))), .unset, .unset, .unset] [.ref ca] := H111.aload at_162
      have H113 : Hr x b_at Z EL1 1 9 hc13 [ca] 165 #[.val (.int p0), .val (.long p1), .second, .val (.int p2), .val (.int p3), .val (.int p4), .val (.ref ca), .val (.int (p0 &&& (3 : Int32))), .unset, .unset, .unset] [.int (4 : Int32), .ref ca] := H112.iconst at_164
      have H114 : Hr x b_at Z EL1 1 9 hc13 [ca] 167 #[.val (.int p0), .val (.long p1), .second, .val (.int p2), .val (.int p3), .val (.int p4), .val (.ref ca), .val (.int (p0 &&& (3 : Int32))), .unset, .unset, .unset] [.int (97 : Int32), .int (4 : Int32), .ref ca] := H113.bipush at_165
      obtain ⟨hc14, Wc14, H115⟩ := H114.castore (by simp) F1_13 at_167 (i := 4) rfl (by rw [List.length_map, N1_13.1]; omega) (hw := (nar_c ((by decide : ¬ (97 : Int32) < 0 ∧ ¬ (255 : Int32) < 97)).1 ((by decide : ¬ (97 : Int32) < 0 ∧ ¬ (255 : Int32) < 97)).2))
      have H115 : Hr x b_at Z EL1 1 9 hc14 [ca] 168 #[.val (.int p0), .val (.long p1), .second, .val (.int p2), .val (.int p3), .val (.int p4), .val (.ref ca), .val (.int (p0 &&& (3 : Int32))), .unset, .unset, .unset] [] := H115
      have F1_14 := F1_13.seti Wc14
      have N1_14 := N1_13.set 4 ((by decide : ¬ (97 : Int32) < 0 ∧ ¬ (255 : Int32) < 97))
      have H116 : Hr x b_at Z EL1 1 9 hc14 [ca] 286 #[.val (.int p0), .val (.long p1), .second, .val (.int p2), .val (.int p3), .val (.int p4), .val (.ref ca), .val (.int (p0 &&& (3 : Int32))), .unset, .unset, .unset] [] := H115.goto at_168
      exact ⟨_, _, N1_14, F1_14, H116⟩
    · have z116 := b0
      have H117 : Hr x b_at Z EL1 1 9 hc9 [ca] 171 #[.val (.int p0), .val (.long p1), .second, .val (.int p2), .val (.int p3), .val (.int p4), .val (.ref ca), .val (.int (p0 &&& (3 : Int32))), .unset, .unset, .unset] [] := H93.ifT at_135 (XT.i0_ne_t b0)
      have H118 : Hr x b_at Z EL1 1 9 hc9 [ca] 173 #[.val (.int p0), .val (.long p1), .second, .val (.int p2), .val (.int p3), .val (.int p4), .val (.ref ca), .val (.int (p0 &&& (3 : Int32))), .unset, .unset, .unset] [.int (p0 &&& (3 : Int32))] := H117.iload at_171
      have H119 : Hr x b_at Z EL1 1 9 hc9 [ca] 174 #[.val (.int p0), .val (.long p1), .second, .val (.int p2), .val (.int p3), .val (.int p4), .val (.ref ca), .val (.int (p0 &&& (3 : Int32))), .unset, .unset, .unset] [.int (1 : Int32), .int (p0 &&& (3 : Int32))] := H118.iconst at_173
      by_cases b1 : (p0 &&& (3 : Int32)) = 1
      · have z119 := b1
        have H120 : Hr x b_at Z EL1 1 9 hc9 [ca] 177 #[.val (.int p0), .val (.long p1), .second, .val (.int p2), .val (.int p3), .val (.int p4), .val (.ref ca), .val (.int (p0 &&& (3 : Int32))), .unset, .unset, .unset] [] := H119.icmpF at_174 (XT.ii_ne_f b1)
        have H121 : Hr x b_at Z EL1 1 9 hc9 [ca] 179 #[.val (.int p0), .val (.long p1), .second, .val (.int p2), .val (.int p3), .val (.int p4), .val (.ref ca), .val (.int (p0 &&& (3 : Int32))), .unset, .unset, .unset] [.ref ca] := H120.aload at_177
        have H122 : Hr x b_at Z EL1 1 9 hc9 [ca] 180 #[.val (.int p0), .val (.long p1), .second, .val (.int p2), .val (.int p3), .val (.int p4), .val (.ref ca), .val (.int (p0 &&& (3 : Int32))), .unset, .unset, .unset] [.int (0 : Int32), .ref ca] := H121.iconst at_179
        have H123 : Hr x b_at Z EL1 1 9 hc9 [ca] 182 #[.val (.int p0), .val (.long p1), .second, .val (.int p2), .val (.int p3), .val (.int p4), .val (.ref ca), .val (.int (p0 &&& (3 : Int32))), .unset, .unset, .unset] [.int (114 : Int32), .int (0 : Int32), .ref ca] := H122.bipush at_180
        obtain ⟨hc15, Wc15, H124⟩ := H123.castore (by simp) F1_9 at_182 (i := 0) rfl (by rw [List.length_map, N1_9.1]; omega) (hw := (nar_c ((by decide : ¬ (114 : Int32) < 0 ∧ ¬ (255 : Int32) < 114)).1 ((by decide : ¬ (114 : Int32) < 0 ∧ ¬ (255 : Int32) < 114)).2))
        have H124 : Hr x b_at Z EL1 1 9 hc15 [ca] 183 #[.val (.int p0), .val (.long p1), .second, .val (.int p2), .val (.int p3), .val (.int p4), .val (.ref ca), .val (.int (p0 &&& (3 : Int32))), .unset, .unset, .unset] [] := H124
        have F1_15 := F1_9.seti Wc15
        have N1_15 := N1_9.set 0 ((by decide : ¬ (114 : Int32) < 0 ∧ ¬ (255 : Int32) < 114))
        have H125 : Hr x b_at Z EL1 1 9 hc15 [ca] 185 #[.val (.int p0), .val (.long p1), .second, .val (.int p2), .val (.int p3), .val (.int p4), .val (.ref ca), .val (.int (p0 &&& (3 : Int32))), .unset, .unset, .unset] [.ref ca] := H124.aload at_183
        have H126 : Hr x b_at Z EL1 1 9 hc15 [ca] 186 #[.val (.int p0), .val (.long p1), .second, .val (.int p2), .val (.int p3), .val (.int p4), .val (.ref ca), .val (.int (p0 &&& (3 : Int32))), .unset, .unset, .unset] [.int (1 : Int32), .ref ca] := H125.iconst at_185
        have H127 : Hr x b_at Z EL1 1 9 hc15 [ca] 188 #[.val (.int p0), .val (.long p1), .second, .val (.int p2), .val (.int p3), .val (.int p4), .val (.ref ca), .val (.int (p0 &&& (3 : Int32))), .unset, .unset, .unset] [.int (97 : Int32), .int (1 : Int32), .ref ca] := H126.bipush at_186
        obtain ⟨hc16, Wc16, H128⟩ := H127.castore (by simp) F1_15 at_188 (i := 1) rfl (by rw [List.length_map, N1_15.1]; omega) (hw := (nar_c ((by decide : ¬ (97 : Int32) < 0 ∧ ¬ (255 : Int32) < 97)).1 ((by decide : ¬ (97 : Int32) < 0 ∧ ¬ (255 : Int32) < 97)).2))
        have H128 : Hr x b_at Z EL1 1 9 hc16 [ca] 189 #[.val (.int p0), .val (.long p1), .second, .val (.int p2), .val (.int p3), .val (.int p4), .val (.ref ca), .val (.int (p0 &&& (3 : Int32))), .unset, .unset, .unset] [] := H128
        have F1_16 := F1_15.seti Wc16
        have N1_16 := N1_15.set 1 ((by decide : ¬ (97 : Int32) < 0 ∧ ¬ (255 : Int32) < 97))
        have H129 : Hr x b_at Z EL1 1 9 hc16 [ca] 191 #[.val (.int p0), .val (.long p1), .second, .val (.int p2), .val (.int p3), .val (.int p4), .val (.ref ca), .val (.int (p0 &&& (3 : Int32))), .unset, .unset, .unset] [.ref ca] := H128.aload at_189
        have H130 : Hr x b_at Z EL1 1 9 hc16 [ca] 192 #[.val (.int p0), .val (.long p1), .second, .val (.int p2), .val (.int p3), .val (.int p4), .val (.ref ca), .val (.int (p0 &&& (3 : Int32))), .unset, .unset, .unset] [.int (2 : Int32), .ref ca] := H129.iconst at_191
        have H131 : Hr x b_at Z EL1 1 9 hc16 [ca] 194 #[.val (.int p0), .val (.long p1), .second, .val (.int p2), .val (.int p3), .val (.int p4), .val (.ref ca), .val (.int (p0 &&& (3 : Int32))), .unset, .unset, .unset] [.int (98 : Int32), .int (2 : Int32), .ref ca] := H130.bipush at_192
        obtain ⟨hc17, Wc17, H132⟩ := H131.castore (by simp) F1_16 at_194 (i := 2) rfl (by rw [List.length_map, N1_16.1]; omega) (hw := (nar_c ((by decide : ¬ (98 : Int32) < 0 ∧ ¬ (255 : Int32) < 98)).1 ((by decide : ¬ (98 : Int32) < 0 ∧ ¬ (255 : Int32) < 98)).2))
        have H132 : Hr x b_at Z EL1 1 9 hc17 [ca] 195 #[.val (.int p0), .val (.long p1), .second, .val (.int p2), .val (.int p3), .val (.int p4), .val (.ref ca), .val (.int (p0 &&& (3 : Int32))), .unset, .unset, .unset] [] := H132
        have F1_17 := F1_16.seti Wc17
        have N1_17 := N1_16.set 2 ((by decide : ¬ (98 : Int32) < 0 ∧ ¬ (255 : Int32) < 98))
        have H133 : Hr x b_at Z EL1 1 9 hc17 [ca] 197 #[.val (.int p0), .val (.long p1), .second, .val (.int p2), .val (.int p3), .val (.int p4), .val (.ref ca), .val (.int (p0 &&& (3 : Int32))), .unset, .unset, .unset] [.ref ca] := H132.aload at_195
        have H134 : Hr x b_at Z EL1 1 9 hc17 [ca] 198 #[.val (.int p0), .val (.long p1), .second, .val (.int p2), .val (.int p3), .val (.int p4), .val (.ref ca), .val (.int (p0 &&& (3 : Int32))), .unset, .unset, .unset] [.int (3 : Int32), .ref ca] := H133.iconst at_197
        have H135 : Hr x b_at Z EL1 1 9 hc17 [ca] 200 #[.val (.int p0), .val (.long p1), .second, .val (.int p2), .val (.int p3), .val (.int p4), .val (.ref ca), .val (.int (p0 &&& (3 : Int32))), .unset, .unset, .unset] [.int (98 : Int32), .int (3 : Int32), .ref ca] := H134.bipush at_198
        obtain ⟨hc18, Wc18, H136⟩ := H135.castore (by simp) F1_17 at_200 (i := 3) rfl (by rw [List.length_map, N1_17.1]; omega) (hw := (nar_c ((by decide : ¬ (98 : Int32) < 0 ∧ ¬ (255 : Int32) < 98)).1 ((by decide : ¬ (98 : Int32) < 0 ∧ ¬ (255 : Int32) < 98)).2))
        have H136 : Hr x b_at Z EL1 1 9 hc18 [ca] 201 #[.val (.int p0), .val (.long p1), .second, .val (.int p2), .val (.int p3), .val (.int p4), .val (.ref ca), .val (.int (p0 &&& (3 : Int32))), .unset, .unset, .unset] [] := H136
        have F1_18 := F1_17.seti Wc18
        have N1_18 := N1_17.set 3 ((by decide : ¬ (98 : Int32) < 0 ∧ ¬ (255 : Int32) < 98))
        have H137 : Hr x b_at Z EL1 1 9 hc18 [ca] 203 #[.val (.int p0), .val (.long p1), .second, .val (.int p2), .val (.int p3), .val (.int p4), .val (.ref ca), .val (.int (p0 &&& (3 : Int32))), .unset, .unset, .unset] [.ref ca] := H136.aload at_201
        have H138 : Hr x b_at Z EL1 1 9 hc18 [ca] 204 #[.val (.int p0), .val (.long p1), .second, .val (.int p2), .val (.int p3), .val (.int p4), .val (.ref ca), .val (.int (p0 &&& (3 : Int32))), .unset, .unset, .unset] [.int (4 : Int32), .ref ca] := H137.iconst at_203
        have H139 : Hr x b_at Z EL1 1 9 hc18 [ca] 206 #[.val (.int p0), .val (.long p1), .second, .val (.int p2), .val (.int p3), .val (.int p4), .val (.ref ca), .val (.int (p0 &&& (3 : Int32))), .unset, .unset, .unset] [.int (105 : Int32), .int (4 : Int32), .ref ca] := H138.bipush at_204
        obtain ⟨hc19, Wc19, H140⟩ := H139.castore (by simp) F1_18 at_206 (i := 4) rfl (by rw [List.length_map, N1_18.1]; omega) (hw := (nar_c ((by decide : ¬ (105 : Int32) < 0 ∧ ¬ (255 : Int32) < 105)).1 ((by decide : ¬ (105 : Int32) < 0 ∧ ¬ (255 : Int32) < 105)).2))
        have H140 : Hr x b_at Z EL1 1 9 hc19 [ca] 207 #[.val (.int p0), .val (.long p1), .second, .val (.int p2), .val (.int p3), .val (.int p4), .val (.ref ca), .val (.int (p0 &&& (3 : Int32))), .unset, .unset, .unset] [] := H140
        have F1_19 := F1_18.seti Wc19
        have N1_19 := N1_18.set 4 ((by decide : ¬ (105 : Int32) < 0 ∧ ¬ (255 : Int32) < 105))
        have H141 : Hr x b_at Z EL1 1 9 hc19 [ca] 209 #[.val (.int p0), .val (.long p1), .second, .val (.int p2), .val (.int p3), .val (.int p4), .val (.ref ca), .val (.int (p0 &&& (3 : Int32))), .unset, .unset, .unset] [.ref ca] := H140.aload at_207
        have H142 : Hr x b_at Z EL1 1 9 hc19 [ca] 210 #[.val (.int p0), .val (.long p1), .second, .val (.int p2), .val (.int p3), .val (.int p4), .val (.ref ca), .val (.int (p0 &&& (3 : Int32))), .unset, .unset, .unset] [.int (5 : Int32), .ref ca] := H141.iconst at_209
        have H143 : Hr x b_at Z EL1 1 9 hc19 [ca] 212 #[.val (.int p0), .val (.long p1), .second, .val (.int p2), .val (.int p3), .val (.int p4), .val (.ref ca), .val (.int (p0 &&& (3 : Int32))), .unset, .unset, .unset] [.int (116 : Int32), .int (5 : Int32), .ref ca] := H142.bipush at_210
        obtain ⟨hc20, Wc20, H144⟩ := H143.castore (by simp) F1_19 at_212 (i := 5) rfl (by rw [List.length_map, N1_19.1]; omega) (hw := (nar_c ((by decide : ¬ (116 : Int32) < 0 ∧ ¬ (255 : Int32) < 116)).1 ((by decide : ¬ (116 : Int32) < 0 ∧ ¬ (255 : Int32) < 116)).2))
        have H144 : Hr x b_at Z EL1 1 9 hc20 [ca] 213 #[.val (.int p0), .val (.long p1), .second, .val (.int p2), .val (.int p3), .val (.int p4), .val (.ref ca), .val (.int (p0 &&& (3 : Int32))), .unset, .unset, .unset] [] := H144
        have F1_20 := F1_19.seti Wc20
        have N1_20 := N1_19.set 5 ((by decide : ¬ (116 : Int32) < 0 ∧ ¬ (255 : Int32) < 116))
        have H145 : Hr x b_at Z EL1 1 9 hc20 [ca] 215 #[.val (.int p0), .val (.long p1), .second, .val (.int p2), .val (.int p3), .val (.int p4), .val (.ref ca), .val (.int (p0 &&& (3 : Int32))), .unset, .unset, .unset] [.ref ca] := H144.aload at_213
        have H146 : Hr x b_at Z EL1 1 9 hc20 [ca] 217 #[.val (.int p0), .val (.long p1), .second, .val (.int p2), .val (.int p3), .val (.int p4), .val (.ref ca), .val (.int (p0 &&& (3 : Int32))), .unset, .unset, .unset] [.int (6 : Int32), .ref ca] := H145.bipush at_215
        have H147 : Hr x b_at Z EL1 1 9 hc20 [ca] 219 #[.val (.int p0), .val (.long p1), .second, .val (.int p2), .val (.int p3), .val (.int p4), .val (.ref ca), .val (.int (p0 &&& (3 : Int32))), .unset, .unset, .unset] [.int (109 : Int32), .int (6 : Int32), .ref ca] := H146.bipush at_217
        obtain ⟨hc21, Wc21, H148⟩ := H147.castore (by simp) F1_20 at_219 (i := 6) rfl (by rw [List.length_map, N1_20.1]; omega) (hw := (nar_c ((by decide : ¬ (109 : Int32) < 0 ∧ ¬ (255 : Int32) < 109)).1 ((by decide : ¬ (109 : Int32) < 0 ∧ ¬ (255 : Int32) < 109)).2))
        have H148 : Hr x b_at Z EL1 1 9 hc21 [ca] 220 #[.val (.int p0), .val (.long p1), .second, .val (.int p2), .val (.int p3), .val (.int p4), .val (.ref ca), .val (.int (p0 &&& (3 : Int32))), .unset, .unset, .unset] [] := H148
        have F1_21 := F1_20.seti Wc21
        have N1_21 := N1_20.set 6 ((by decide : ¬ (109 : Int32) < 0 ∧ ¬ (255 : Int32) < 109))
        have H149 : Hr x b_at Z EL1 1 9 hc21 [ca] 222 #[.val (.int p0), .val (.long p1), .second, .val (.int p2), .val (.int p3), .val (.int p4), .val (.ref ca), .val (.int (p0 &&& (3 : Int32))), .unset, .unset, .unset] [.ref ca] := H148.aload at_220
        have H150 : Hr x b_at Z EL1 1 9 hc21 [ca] 224 #[.val (.int p0), .val (.long p1), .second, .val (.int p2), .val (.int p3), .val (.int p4), .val (.ref ca), .val (.int (p0 &&& (3 : Int32))), .unset, .unset, .unset] [.int (7 : Int32), .ref ca] := H149.bipush at_222
        have H151 : Hr x b_at Z EL1 1 9 hc21 [ca] 226 #[.val (.int p0), .val (.long p1), .second, .val (.int p2), .val (.int p3), .val (.int p4), .val (.ref ca), .val (.int (p0 &&& (3 : Int32))), .unset, .unset, .unset] [.int (113 : Int32), .int (7 : Int32), .ref ca] := H150.bipush at_224
        obtain ⟨hc22, Wc22, H152⟩ := H151.castore (by simp) F1_21 at_226 (i := 7) rfl (by rw [List.length_map, N1_21.1]; omega) (hw := (nar_c ((by decide : ¬ (113 : Int32) < 0 ∧ ¬ (255 : Int32) < 113)).1 ((by decide : ¬ (113 : Int32) < 0 ∧ ¬ (255 : Int32) < 113)).2))
        have H152 : Hr x b_at Z EL1 1 9 hc22 [ca] 227 #[.val (.int p0), .val (.long p1), .second, .val (.int p2), .val (.int p3), .val (.int p4), .val (.ref ca), .val (.int (p0 &&& (3 : Int32))), .unset, .unset, .unset] [] := H152
        have F1_22 := F1_21.seti Wc22
        have N1_22 := N1_21.set 7 ((by decide : ¬ (113 : Int32) < 0 ∧ ¬ (255 : Int32) < 113))
        have H153 : Hr x b_at Z EL1 1 9 hc22 [ca] 286 #[.val (.int p0), .val (.long p1), .second, .val (.int p2), .val (.int p3), .val (.int p4), .val (.ref ca), .val (.int (p0 &&& (3 : Int32))), .unset, .unset, .unset] [] := H152.goto at_227
        exact ⟨_, _, N1_22, F1_22, H153⟩
      · have z153 := b1
        have H154 : Hr x b_at Z EL1 1 9 hc9 [ca] 230 #[.val (.int p0), .val (.long p1), .second, .val (.int p2), .val (.int p3), .val (.int p4), .val (.ref ca), .val (.int (p0 &&& (3 : Int32))), .unset, .unset, .unset] [] := H119.icmpT at_174 (XT.ii_ne_t b1)
        have H155 : Hr x b_at Z EL1 1 9 hc9 [ca] 232 #[.val (.int p0), .val (.long p1), .second, .val (.int p2), .val (.int p3), .val (.int p4), .val (.ref ca), .val (.int (p0 &&& (3 : Int32))), .unset, .unset, .unset] [.int (p0 &&& (3 : Int32))] := H154.iload at_230
        have H156 : Hr x b_at Z EL1 1 9 hc9 [ca] 233 #[.val (.int p0), .val (.long p1), .second, .val (.int p2), .val (.int p3), .val (.int p4), .val (.ref ca), .val (.int (p0 &&& (3 : Int32))), .unset, .unset, .unset] [.int (3 : Int32), .int (p0 &&& (3 : Int32))] := H155.iconst at_232
        by_cases b3 : (p0 &&& (3 : Int32)) = 3
        · have z156 := b3
          have H157 : Hr x b_at Z EL1 1 9 hc9 [ca] 236 #[.val (.int p0), .val (.long p1), .second, .val (.int p2), .val (.int p3), .val (.int p4), .val (.ref ca), .val (.int (p0 &&& (3 : Int32))), .unset, .unset, .unset] [] := H156.icmpF at_233 (XT.ii_ne_f b3)
          have H158 : Hr x b_at Z EL1 1 9 hc9 [ca] 238 #[.val (.int p0), .val (.long p1), .second, .val (.int p2), .val (.int p3), .val (.int p4), .val (.ref ca), .val (.int (p0 &&& (3 : Int32))), .unset, .unset, .unset] [.ref ca] := H157.aload at_236
          have H159 : Hr x b_at Z EL1 1 9 hc9 [ca] 239 #[.val (.int p0), .val (.long p1), .second, .val (.int p2), .val (.int p3), .val (.int p4), .val (.ref ca), .val (.int (p0 &&& (3 : Int32))), .unset, .unset, .unset] [.int (0 : Int32), .ref ca] := H158.iconst at_238
          have H160 : Hr x b_at Z EL1 1 9 hc9 [ca] 241 #[.val (.int p0), .val (.long p1), .second, .val (.int p2), .val (.int p3), .val (.int p4), .val (.ref ca), .val (.int (p0 &&& (3 : Int32))), .unset, .unset, .unset] [.int (82 : Int32), .int (0 : Int32), .ref ca] := H159.bipush at_239
          obtain ⟨hc23, Wc23, H161⟩ := H160.castore (by simp) F1_9 at_241 (i := 0) rfl (by rw [List.length_map, N1_9.1]; omega) (hw := (nar_c ((by decide : ¬ (82 : Int32) < 0 ∧ ¬ (255 : Int32) < 82)).1 ((by decide : ¬ (82 : Int32) < 0 ∧ ¬ (255 : Int32) < 82)).2))
          have H161 : Hr x b_at Z EL1 1 9 hc23 [ca] 242 #[.val (.int p0), .val (.long p1), .second, .val (.int p2), .val (.int p3), .val (.int p4), .val (.ref ca), .val (.int (p0 &&& (3 : Int32))), .unset, .unset, .unset] [] := H161
          have F1_23 := F1_9.seti Wc23
          have N1_23 := N1_9.set 0 ((by decide : ¬ (82 : Int32) < 0 ∧ ¬ (255 : Int32) < 82))
          have H162 : Hr x b_at Z EL1 1 9 hc23 [ca] 244 #[.val (.int p0), .val (.long p1), .second, .val (.int p2), .val (.int p3), .val (.int p4), .val (.ref ca), .val (.int (p0 &&& (3 : Int32))), .unset, .unset, .unset] [.ref ca] := H161.aload at_242
          have H163 : Hr x b_at Z EL1 1 9 hc23 [ca] 245 #[.val (.int p0), .val (.long p1), .second, .val (.int p2), .val (.int p3), .val (.int p4), .val (.ref ca), .val (.int (p0 &&& (3 : Int32))), .unset, .unset, .unset] [.int (1 : Int32), .ref ca] := H162.iconst at_244
          have H164 : Hr x b_at Z EL1 1 9 hc23 [ca] 247 #[.val (.int p0), .val (.long p1), .second, .val (.int p2), .val (.int p3), .val (.int p4), .val (.ref ca), .val (.int (p0 &&& (3 : Int32))), .unset, .unset, .unset] [.int (65 : Int32), .int (1 : Int32), .ref ca] := H163.bipush at_245
          obtain ⟨hc24, Wc24, H165⟩ := H164.castore (by simp) F1_23 at_247 (i := 1) rfl (by rw [List.length_map, N1_23.1]; omega) (hw := (nar_c ((by decide : ¬ (65 : Int32) < 0 ∧ ¬ (255 : Int32) < 65)).1 ((by decide : ¬ (65 : Int32) < 0 ∧ ¬ (255 : Int32) < 65)).2))
          have H165 : Hr x b_at Z EL1 1 9 hc24 [ca] 248 #[.val (.int p0), .val (.long p1), .second, .val (.int p2), .val (.int p3), .val (.int p4), .val (.ref ca), .val (.int (p0 &&& (3 : Int32))), .unset, .unset, .unset] [] := H165
          have F1_24 := F1_23.seti Wc24
          have N1_24 := N1_23.set 1 ((by decide : ¬ (65 : Int32) < 0 ∧ ¬ (255 : Int32) < 65))
          have H166 : Hr x b_at Z EL1 1 9 hc24 [ca] 250 #[.val (.int p0), .val (.long p1), .second, .val (.int p2), .val (.int p3), .val (.int p4), .val (.ref ca), .val (.int (p0 &&& (3 : Int32))), .unset, .unset, .unset] [.ref ca] := H165.aload at_248
          have H167 : Hr x b_at Z EL1 1 9 hc24 [ca] 251 #[.val (.int p0), .val (.long p1), .second, .val (.int p2), .val (.int p3), .val (.int p4), .val (.ref ca), .val (.int (p0 &&& (3 : Int32))), .unset, .unset, .unset] [.int (2 : Int32), .ref ca] := H166.iconst at_250
          have H168 : Hr x b_at Z EL1 1 9 hc24 [ca] 253 #[.val (.int p0), .val (.long p1), .second, .val (.int p2), .val (.int p3), .val (.int p4), .val (.ref ca), .val (.int (p0 &&& (3 : Int32))), .unset, .unset, .unset] [.int (66 : Int32), .int (2 : Int32), .ref ca] := H167.bipush at_251
          obtain ⟨hc25, Wc25, H169⟩ := H168.castore (by simp) F1_24 at_253 (i := 2) rfl (by rw [List.length_map, N1_24.1]; omega) (hw := (nar_c ((by decide : ¬ (66 : Int32) < 0 ∧ ¬ (255 : Int32) < 66)).1 ((by decide : ¬ (66 : Int32) < 0 ∧ ¬ (255 : Int32) < 66)).2))
          have H169 : Hr x b_at Z EL1 1 9 hc25 [ca] 254 #[.val (.int p0), .val (.long p1), .second, .val (.int p2), .val (.int p3), .val (.int p4), .val (.ref ca), .val (.int (p0 &&& (3 : Int32))), .unset, .unset, .unset] [] := H169
          have F1_25 := F1_24.seti Wc25
          have N1_25 := N1_24.set 2 ((by decide : ¬ (66 : Int32) < 0 ∧ ¬ (255 : Int32) < 66))
          have H170 : Hr x b_at Z EL1 1 9 hc25 [ca] 256 #[.val (.int p0), .val (.long p1), .second, .val (.int p2), .val (.int p3), .val (.int p4), .val (.ref ca), .val (.int (p0 &&& (3 : Int32))), .unset, .unset, .unset] [.ref ca] := H169.aload at_254
          have H171 : Hr x b_at Z EL1 1 9 hc25 [ca] 257 #[.val (.int p0), .val (.long p1), .second, .val (.int p2), .val (.int p3), .val (.int p4), .val (.ref ca), .val (.int (p0 &&& (3 : Int32))), .unset, .unset, .unset] [.int (3 : Int32), .ref ca] := H170.iconst at_256
          have H172 : Hr x b_at Z EL1 1 9 hc25 [ca] 259 #[.val (.int p0), .val (.long p1), .second, .val (.int p2), .val (.int p3), .val (.int p4), .val (.ref ca), .val (.int (p0 &&& (3 : Int32))), .unset, .unset, .unset] [.int (66 : Int32), .int (3 : Int32), .ref ca] := H171.bipush at_257
          obtain ⟨hc26, Wc26, H173⟩ := H172.castore (by simp) F1_25 at_259 (i := 3) rfl (by rw [List.length_map, N1_25.1]; omega) (hw := (nar_c ((by decide : ¬ (66 : Int32) < 0 ∧ ¬ (255 : Int32) < 66)).1 ((by decide : ¬ (66 : Int32) < 0 ∧ ¬ (255 : Int32) < 66)).2))
          have H173 : Hr x b_at Z EL1 1 9 hc26 [ca] 260 #[.val (.int p0), .val (.long p1), .second, .val (.int p2), .val (.int p3), .val (.int p4), .val (.ref ca), .val (.int (p0 &&& (3 : Int32))), .unset, .unset, .unset] [] := H173
          have F1_26 := F1_25.seti Wc26
          have N1_26 := N1_25.set 3 ((by decide : ¬ (66 : Int32) < 0 ∧ ¬ (255 : Int32) < 66))
          have H174 : Hr x b_at Z EL1 1 9 hc26 [ca] 262 #[.val (.int p0), .val (.long p1), .second, .val (.int p2), .val (.int p3), .val (.int p4), .val (.ref ca), .val (.int (p0 &&& (3 : Int32))), .unset, .unset, .unset] [.ref ca] := H173.aload at_260
          have H175 : Hr x b_at Z EL1 1 9 hc26 [ca] 263 #[.val (.int p0), .val (.long p1), .second, .val (.int p2), .val (.int p3), .val (.int p4), .val (.ref ca), .val (.int (p0 &&& (3 : Int32))), .unset, .unset, .unset] [.int (4 : Int32), .ref ca] := H174.iconst at_262
          have H176 : Hr x b_at Z EL1 1 9 hc26 [ca] 265 #[.val (.int p0), .val (.long p1), .second, .val (.int p2), .val (.int p3), .val (.int p4), .val (.ref ca), .val (.int (p0 &&& (3 : Int32))), .unset, .unset, .unset] [.int (73 : Int32), .int (4 : Int32), .ref ca] := H175.bipush at_263
          obtain ⟨hc27, Wc27, H177⟩ := H176.castore (by simp) F1_26 at_265 (i := 4) rfl (by rw [List.length_map, N1_26.1]; omega) (hw := (nar_c ((by decide : ¬ (73 : Int32) < 0 ∧ ¬ (255 : Int32) < 73)).1 ((by decide : ¬ (73 : Int32) < 0 ∧ ¬ (255 : Int32) < 73)).2))
          have H177 : Hr x b_at Z EL1 1 9 hc27 [ca] 266 #[.val (.int p0), .val (.long p1), .second, .val (.int p2), .val (.int p3), .val (.int p4), .val (.ref ca), .val (.int (p0 &&& (3 : Int32))), .unset, .unset, .unset] [] := H177
          have F1_27 := F1_26.seti Wc27
          have N1_27 := N1_26.set 4 ((by decide : ¬ (73 : Int32) < 0 ∧ ¬ (255 : Int32) < 73))
          have H178 : Hr x b_at Z EL1 1 9 hc27 [ca] 268 #[.val (.int p0), .val (.long p1), .second, .val (.int p2), .val (.int p3), .val (.int p4), .val (.ref ca), .val (.int (p0 &&& (3 : Int32))), .unset, .unset, .unset] [.ref ca] := H177.aload at_266
          have H179 : Hr x b_at Z EL1 1 9 hc27 [ca] 269 #[.val (.int p0), .val (.long p1), .second, .val (.int p2), .val (.int p3), .val (.int p4), .val (.ref ca), .val (.int (p0 &&& (3 : Int32))), .unset, .unset, .unset] [.int (5 : Int32), .ref ca] := H178.iconst at_268
          have H180 : Hr x b_at Z EL1 1 9 hc27 [ca] 271 #[.val (.int p0), .val (.long p1), .second, .val (.int p2), .val (.int p3), .val (.int p4), .val (.ref ca), .val (.int (p0 &&& (3 : Int32))), .unset, .unset, .unset] [.int (84 : Int32), .int (5 : Int32), .ref ca] := H179.bipush at_269
          obtain ⟨hc28, Wc28, H181⟩ := H180.castore (by simp) F1_27 at_271 (i := 5) rfl (by rw [List.length_map, N1_27.1]; omega) (hw := (nar_c ((by decide : ¬ (84 : Int32) < 0 ∧ ¬ (255 : Int32) < 84)).1 ((by decide : ¬ (84 : Int32) < 0 ∧ ¬ (255 : Int32) < 84)).2))
          have H181 : Hr x b_at Z EL1 1 9 hc28 [ca] 272 #[.val (.int p0), .val (.long p1), .second, .val (.int p2), .val (.int p3), .val (.int p4), .val (.ref ca), .val (.int (p0 &&& (3 : Int32))), .unset, .unset, .unset] [] := H181
          have F1_28 := F1_27.seti Wc28
          have N1_28 := N1_27.set 5 ((by decide : ¬ (84 : Int32) < 0 ∧ ¬ (255 : Int32) < 84))
          have H182 : Hr x b_at Z EL1 1 9 hc28 [ca] 274 #[.val (.int p0), .val (.long p1), .second, .val (.int p2), .val (.int p3), .val (.int p4), .val (.ref ca), .val (.int (p0 &&& (3 : Int32))), .unset, .unset, .unset] [.ref ca] := H181.aload at_272
          have H183 : Hr x b_at Z EL1 1 9 hc28 [ca] 276 #[.val (.int p0), .val (.long p1), .second, .val (.int p2), .val (.int p3), .val (.int p4), .val (.ref ca), .val (.int (p0 &&& (3 : Int32))), .unset, .unset, .unset] [.int (6 : Int32), .ref ca] := H182.bipush at_274
          have H184 : Hr x b_at Z EL1 1 9 hc28 [ca] 278 #[.val (.int p0), .val (.long p1), .second, .val (.int p2), .val (.int p3), .val (.int p4), .val (.ref ca), .val (.int (p0 &&& (3 : Int32))), .unset, .unset, .unset] [.int (77 : Int32), .int (6 : Int32), .ref ca] := H183.bipush at_276
          obtain ⟨hc29, Wc29, H185⟩ := H184.castore (by simp) F1_28 at_278 (i := 6) rfl (by rw [List.length_map, N1_28.1]; omega) (hw := (nar_c ((by decide : ¬ (77 : Int32) < 0 ∧ ¬ (255 : Int32) < 77)).1 ((by decide : ¬ (77 : Int32) < 0 ∧ ¬ (255 : Int32) < 77)).2))
          have H185 : Hr x b_at Z EL1 1 9 hc29 [ca] 279 #[.val (.int p0), .val (.long p1), .second, .val (.int p2), .val (.int p3), .val (.int p4), .val (.ref ca), .val (.int (p0 &&& (3 : Int32))), .unset, .unset, .unset] [] := H185
          have F1_29 := F1_28.seti Wc29
          have N1_29 := N1_28.set 6 ((by decide : ¬ (77 : Int32) < 0 ∧ ¬ (255 : Int32) < 77))
          have H186 : Hr x b_at Z EL1 1 9 hc29 [ca] 281 #[.val (.int p0), .val (.long p1), .second, .val (.int p2), .val (.int p3), .val (.int p4), .val (.ref ca), .val (.int (p0 &&& (3 : Int32))), .unset, .unset, .unset] [.ref ca] := H185.aload at_279
          have H187 : Hr x b_at Z EL1 1 9 hc29 [ca] 283 #[.val (.int p0), .val (.long p1), .second, .val (.int p2), .val (.int p3), .val (.int p4), .val (.ref ca), .val (.int (p0 &&& (3 : Int32))), .unset, .unset, .unset] [.int (7 : Int32), .ref ca] := H186.bipush at_281
          have H188 : Hr x b_at Z EL1 1 9 hc29 [ca] 285 #[.val (.int p0), .val (.long p1), .second, .val (.int p2), .val (.int p3), .val (.int p4), .val (.ref ca), .val (.int (p0 &&& (3 : Int32))), .unset, .unset, .unset] [.int (81 : Int32), .int (7 : Int32), .ref ca] := H187.bipush at_283
          obtain ⟨hc30, Wc30, H189⟩ := H188.castore (by simp) F1_29 at_285 (i := 7) rfl (by rw [List.length_map, N1_29.1]; omega) (hw := (nar_c ((by decide : ¬ (81 : Int32) < 0 ∧ ¬ (255 : Int32) < 81)).1 ((by decide : ¬ (81 : Int32) < 0 ∧ ¬ (255 : Int32) < 81)).2))
          have H189 : Hr x b_at Z EL1 1 9 hc30 [ca] 286 #[.val (.int p0), .val (.long p1), .second, .val (.int p2), .val (.int p3), .val (.int p4), .val (.ref ca), .val (.int (p0 &&& (3 : Int32))), .unset, .unset, .unset] [] := H189
          have F1_30 := F1_29.seti Wc30
          have N1_30 := N1_29.set 7 ((by decide : ¬ (81 : Int32) < 0 ∧ ¬ (255 : Int32) < 81))
          exact ⟨_, _, N1_30, F1_30, H189⟩
        · have z189 := b3
          have H190 : Hr x b_at Z EL1 1 9 hc9 [ca] 286 #[.val (.int p0), .val (.long p1), .second, .val (.int p2), .val (.int p3), .val (.int p4), .val (.ref ca), .val (.int (p0 &&& (3 : Int32))), .unset, .unset, .unset] [] := H156.icmpT at_233 (XT.ii_ne_t b3)
          exact ⟨_, _, N1_9, F1_9, H190⟩
  have H191 : Hr x b_at Z EL1 1 9 h2 [ca] 287 #[.val (.int p0), .val (.long p1), .second, .val (.int p2), .val (.int p3), .val (.int p4), .val (.ref ca), .val (.int (p0 &&& (3 : Int32))), .unset, .unset, .unset] [.int p0] := H94.iloadN at_286
  have H192 : Hr x b_at Z EL1 1 9 h2 [ca] 288 #[.val (.int p0), .val (.long p1), .second, .val (.int p2), .val (.int p3), .val (.int p4), .val (.ref ca), .val (.int (p0 &&& (3 : Int32))), .unset, .unset, .unset] [.int (2 : Int32), .int p0] := H191.iconst at_287
  have H193 : Hr x b_at Z EL1 1 9 h2 [ca] 289 #[.val (.int p0), .val (.long p1), .second, .val (.int p2), .val (.int p3), .val (.int p4), .val (.ref ca), .val (.int (p0 &&& (3 : Int32))), .unset, .unset, .unset] [.int (XT.ushr p0 (2 : Int32))] := H192.iushr at_288
  have H194 : Hr x b_at Z EL1 1 9 h2 [ca] 290 #[.val (.int p0), .val (.long p1), .second, .val (.int p2), .val (.int p3), .val (.int p4), .val (.ref ca), .val (.int (p0 &&& (3 : Int32))), .unset, .unset, .unset] [.int (1 : Int32), .int (XT.ushr p0 (2 : Int32))] := H193.iconst at_289
  have H195 : Hr x b_at Z EL1 1 9 h2 [ca] 291 #[.val (.int p0), .val (.long p1), .second, .val (.int p2), .val (.int p3), .val (.int p4), .val (.ref ca), .val (.int (p0 &&& (3 : Int32))), .unset, .unset, .unset] [.int ((XT.ushr p0 (2 : Int32)) &&& (1 : Int32))] := H194.iand at_290
  obtain ⟨h3, ds3, o8, N3, F3, ho8, H196⟩ : ∃ (h3 : Heap) (ds3 : List Int32) (o8 : Slot), Nine ds3 ∧ Ar Z h3 ca .char (ds3.map Value.int) ∧ (o8 = .unset ∨ ∃ w, o8 = .val w ∧ w.category = 1) ∧ Hr x b_at Z EL1 1 9 h3 [ca] 318 #[.val (.int p0), .val (.long p1), .second, .val (.int p2), .val (.int p3), .val (.int p4), .val (.ref ca), .val (.int (p0 &&& (3 : Int32))), o8, .unset, .unset] [] := by
    by_cases b4 : ((XT.ushr p0 (2 : Int32)) &&& (1 : Int32)) = 0
    · have z196 := b4
      have H197 : Hr x b_at Z EL1 1 9 h2 [ca] 318 #[.val (.int p0), .val (.long p1), .second, .val (.int p2), .val (.int p3), .val (.int p4), .val (.ref ca), .val (.int (p0 &&& (3 : Int32))), .unset, .unset, .unset] [] := H195.ifT at_291 (XT.i0_eq_t b4)
      exact ⟨_, _, _, N2, F2, Or.inl rfl, H197⟩
    · have z197 := b4
      have H198 : Hr x b_at Z EL1 1 9 h2 [ca] 294 #[.val (.int p0), .val (.long p1), .second, .val (.int p2), .val (.int p3), .val (.int p4), .val (.ref ca), .val (.int (p0 &&& (3 : Int32))), .unset, .unset, .unset] [] := H195.ifF at_291 (XT.i0_eq_f b4)
      have H199 : Hr x b_at Z EL1 1 9 h2 [ca] 296 #[.val (.int p0), .val (.long p1), .second, .val (.int p2), .val (.int p3), .val (.int p4), .val (.ref ca), .val (.int (p0 &&& (3 : Int32))), .unset, .unset, .unset] [.int p3] := H198.iload at_294
      have H200 : Hr x b_at Z EL1 1 9 h2 [ca] 298 #[.val (.int p0), .val (.long p1), .second, .val (.int p2), .val (.int p3), .val (.int p4), .val (.ref ca), .val (.int (p0 &&& (3 : Int32))), .unset, .unset, .unset] [.int (2147483647 : Int32), .int p3] := H199.ldcI (w74 hw) at_296
      obtain ⟨ip, hip, hip2⟩ := mod9 p3
      have H201 : Hr x b_at Z EL1 1 9 h2 [ca] 299 #[.val (.int p0), .val (.long p1), .second, .val (.int p2), .val (.int p3), .val (.int p4), .val (.ref ca), .val (.int (p0 &&& (3 : Int32))), .unset, .unset, .unset] [.int (p3 &&& (2147483647 : Int32))] := H200.iand at_298
      have H202 : Hr x b_at Z EL1 1 9 h2 [ca] 301 #[.val (.int p0), .val (.long p1), .second, .val (.int p2), .val (.int p3), .val (.int p4), .val (.ref ca), .val (.int (p0 &&& (3 : Int32))), .unset, .unset, .unset] [.int (9 : Int32), .int (p3 &&& (2147483647 : Int32))] := H201.bipush at_299
      have H203 : Hr x b_at Z EL1 1 9 h2 [ca] 302 #[.val (.int p0), .val (.long p1), .second, .val (.int p2), .val (.int p3), .val (.int p4), .val (.ref ca), .val (.int (p0 &&& (3 : Int32))), .unset, .unset, .unset] [.int (Int32.ofNat ip)] := H202.irem at_301 (by decide) (hv := hip2)
      have H204 : Hr x b_at Z EL1 1 9 h2 [ca] 304 #[.val (.int p0), .val (.long p1), .second, .val (.int p2), .val (.int p3), .val (.int p4), .val (.ref ca), .val (.int (p0 &&& (3 : Int32))), .val (.int (Int32.ofNat ip)), .unset, .unset] [] := H203.istore at_302
      have H205 : Hr x b_at Z EL1 1 9 h2 [ca] 306 #[.val (.int p0), .val (.long p1), .second, .val (.int p2), .val (.int p3), .val (.int p4), .val (.ref ca), .val (.int (p0 &&& (3 : Int32))), .val (.int (Int32.ofNat ip)), .unset, .unset] [.ref ca] := H204.aload at_304
      have H206 : Hr x b_at Z EL1 1 9 h2 [ca] 308 #[.val (.int p0), .val (.long p1), .second, .val (.int p2), .val (.int p3), .val (.int p4), .val (.ref ca), .val (.int (p0 &&& (3 : Int32))), .val (.int (Int32.ofNat ip)), .unset, .unset] [.int (Int32.ofNat ip), .ref ca] := H205.iload at_306
      have H207 : Hr x b_at Z EL1 1 9 h2 [ca] 309 #[.val (.int p0), .val (.long p1), .second, .val (.int p2), .val (.int p3), .val (.int p4), .val (.ref ca), .val (.int (p0 &&& (3 : Int32))), .val (.int (Int32.ofNat ip)), .unset, .unset] [.int p2, .int (Int32.ofNat ip), .ref ca] := H206.iloadN at_308
      have H208 : Hr x b_at Z EL1 1 9 h2 [ca] 311 #[.val (.int p0), .val (.long p1), .second, .val (.int p2), .val (.int p3), .val (.int p4), .val (.ref ca), .val (.int (p0 &&& (3 : Int32))), .val (.int (Int32.ofNat ip)), .unset, .unset] [.int (8 : Int32), .int p2, .int (Int32.ofNat ip), .ref ca] := H207.bipush at_309
      have H209 : Hr x b_at Z EL1 1 9 h2 [ca] 312 #[.val (.int p0), .val (.long p1), .second, .val (.int p2), .val (.int p3), .val (.int p4), .val (.ref ca), .val (.int (p0 &&& (3 : Int32))), .val (.int (Int32.ofNat ip)), .unset, .unset] [.int (XT.ushr p2 (8 : Int32)), .int (Int32.ofNat ip), .ref ca] := H208.iushr at_311
      have H210 : Hr x b_at Z EL1 1 9 h2 [ca] 315 #[.val (.int p0), .val (.long p1), .second, .val (.int p2), .val (.int p3), .val (.int p4), .val (.ref ca), .val (.int (p0 &&& (3 : Int32))), .val (.int (Int32.ofNat ip)), .unset, .unset] [.int (255 : Int32), .int (XT.ushr p2 (8 : Int32)), .int (Int32.ofNat ip), .ref ca] := H209.sipush at_312
      have H211 : Hr x b_at Z EL1 1 9 h2 [ca] 316 #[.val (.int p0), .val (.long p1), .second, .val (.int p2), .val (.int p3), .val (.int p4), .val (.ref ca), .val (.int (p0 &&& (3 : Int32))), .val (.int (Int32.ofNat ip)), .unset, .unset] [.int ((XT.ushr p2 (8 : Int32)) &&& (255 : Int32)), .int (Int32.ofNat ip), .ref ca] := H210.iand at_315
      have H212 : Hr x b_at Z EL1 1 9 h2 [ca] 317 #[.val (.int p0), .val (.long p1), .second, .val (.int p2), .val (.int p3), .val (.int p4), .val (.ref ca), .val (.int (p0 &&& (3 : Int32))), .val (.int (Int32.ofNat ip)), .unset, .unset] [.int (((XT.ushr p2 (8 : Int32)) &&& (255 : Int32)).toUInt32.toUInt16.toUInt32.toInt32), .int (Int32.ofNat ip), .ref ca] := H211.i2c at_316
      obtain ⟨hc31, Wc31, H213⟩ := H212.castore (by simp) F2 at_317 (i := ip) rfl (by rw [List.length_map, N2.1]; omega) (hw := (nar_c (chr_rng (XT.ushr p2 (8 : Int32))).1 (chr_rng (XT.ushr p2 (8 : Int32))).2))
      have H213 : Hr x b_at Z EL1 1 9 hc31 [ca] 318 #[.val (.int p0), .val (.long p1), .second, .val (.int p2), .val (.int p3), .val (.int p4), .val (.ref ca), .val (.int (p0 &&& (3 : Int32))), .val (.int (Int32.ofNat ip)), .unset, .unset] [] := H213
      have F2_31 := F2.seti Wc31
      have N2_31 := N2.set ip (chr_rng (XT.ushr p2 (8 : Int32)))
      exact ⟨_, _, _, N2_31, F2_31, Or.inr ⟨_, rfl, rfl⟩, H213⟩
  have H214 : Hr x b_at Z EL1 1 9 h3 [ca] 320 #[.val (.int p0), .val (.long p1), .second, .val (.int p2), .val (.int p3), .val (.int p4), .val (.ref ca), .val (.int (p0 &&& (3 : Int32))), o8, .unset, .unset] [.ref ca] := H196.aload at_318
  have H215 : Hr x b_at Z EL1 1 9 h3 [ca] 322 #[.val (.int p0), .val (.long p1), .second, .val (.int p2), .val (.int p3), .val (.int p4), .val (.ref ca), .val (.int (p0 &&& (3 : Int32))), o8, .unset, .unset] [.int p4, .ref ca] := H214.iload at_320
  have H216 : Hr x b_at Z EL1 1 9 h3 [ca] 324 #[.val (.int p0), .val (.long p1), .second, .val (.int p2), .val (.int p3), .val (.int p4), .val (.ref ca), .val (.int (p0 &&& (3 : Int32))), o8, .unset, .unset] [.int (7 : Int32), .int p4, .ref ca] := H215.bipush at_322
  have H217 : Hr x b_at Z EL1 1 9 h3 [ca] 325 #[.val (.int p0), .val (.long p1), .second, .val (.int p2), .val (.int p3), .val (.int p4), .val (.ref ca), .val (.int (p0 &&& (3 : Int32))), o8, .unset, .unset] [.int (p4 &&& (7 : Int32)), .ref ca] := H216.iand at_324
  obtain ⟨_, h4, _, ⟨s, t, bs, rfl, rfl, Fs⟩, K4, H218⟩ := H217.callS (argsL := [.ref ca, .int (p4 &&& (7 : Int32))]) (rest := []) (Wr := 0) (ct_cut hw x.l x.nar x.kn hnar h3 ca (p4 &&& (7 : Int32)) ds3 N3.1 N3.2 F3 cz O hcz) sub0 (w2 hw) (w3 hw) (w4 hw) (w5 hw) at_325 pd_cut rfl (hf := by first | decide | (simp [b_at, Bx.R]; done) | (simp [b_at, Bx.R]; omega)) (hl := by first | decide | (simp [b_at, Bx.R]; done) | (simp [b_at, Bx.R]; omega)) (hc := by first | decide | (simp [b_at, Bx.R]; done) | (simp [b_at, Bx.R]; omega)) (hs := by first | decide | (simp [b_at, Bx.R]; done) | (simp [b_at, Bx.R]; omega))
  have H218 : Hr x b_at Z EL1 7 39 h4 [ca] 328 #[.val (.int p0), .val (.long p1), .second, .val (.int p2), .val (.int p3), .val (.int p4), .val (.ref ca), .val (.int (p0 &&& (3 : Int32))), o8, .unset, .unset] [.ref s] := H218
  have H219 : Hr x b_at Z EL1 7 39 h4 [ca] 330 #[.val (.int p0), .val (.long p1), .second, .val (.int p2), .val (.int p3), .val (.int p4), .val (.ref ca), .val (.int (p0 &&& (3 : Int32))), .val (.ref s), .unset, .unset] [] := H218.astore at_328 (hl := XS.store1 (o := o8) rfl ho8 rfl)
  have H220 : Hr x b_at Z EL1 7 39 h4 [ca] 331 #[.val (.int p0), .val (.long p1), .second, .val (.int p2), .val (.int p3), .val (.int p4), .val (.ref ca), .val (.int (p0 &&& (3 : Int32))), .val (.ref s), .unset, .unset] [.int p0] := H219.iloadN at_330
  have H221 : Hr x b_at Z EL1 7 39 h4 [ca] 332 #[.val (.int p0), .val (.long p1), .second, .val (.int p2), .val (.int p3), .val (.int p4), .val (.ref ca), .val (.int (p0 &&& (3 : Int32))), .val (.ref s), .unset, .unset] [.int (3 : Int32), .int p0] := H220.iconst at_331
  have H222 : Hr x b_at Z EL1 7 39 h4 [ca] 333 #[.val (.int p0), .val (.long p1), .second, .val (.int p2), .val (.int p3), .val (.int p4), .val (.ref ca), .val (.int (p0 &&& (3 : Int32))), .val (.ref s), .unset, .unset] [.int (XT.ushr p0 (3 : Int32))] := H221.iushr at_332
  have H223 : Hr x b_at Z EL1 7 39 h4 [ca] 335 #[.val (.int p0), .val (.long p1), .second, .val (.int p2), .val (.int p3), .val (.int p4), .val (.ref ca), .val (.int (p0 &&& (3 : Int32))), .val (.ref s), .unset, .unset] [.int (15 : Int32), .int (XT.ushr p0 (3 : Int32))] := H222.bipush at_333
  have H224 : Hr x b_at Z EL1 7 39 h4 [ca] 336 #[.val (.int p0), .val (.long p1), .second, .val (.int p2), .val (.int p3), .val (.int p4), .val (.ref ca), .val (.int (p0 &&& (3 : Int32))), .val (.ref s), .unset, .unset] [.int ((XT.ushr p0 (3 : Int32)) &&& (15 : Int32))] := H223.iand at_335
  have H225 : Hr x b_at Z EL1 7 39 h4 [ca] 338 #[.val (.int p0), .val (.long p1), .second, .val (.int p2), .val (.int p3), .val (.int p4), .val (.ref ca), .val (.int (p0 &&& (3 : Int32))), .val (.ref s), .unset, .unset] [.int (15 : Int32), .int ((XT.ushr p0 (3 : Int32)) &&& (15 : Int32))] := H224.bipush at_336
  by_cases b5 : ((XT.ushr p0 (3 : Int32)) &&& (15 : Int32)) = (15 : Int32)
  · have z225 := b5
    have H226 : Hr x b_at Z EL1 7 39 h4 [ca] 341 #[.val (.int p0), .val (.long p1), .second, .val (.int p2), .val (.int p3), .val (.int p4), .val (.ref ca), .val (.int (p0 &&& (3 : Int32))), .val (.ref s), .unset, .unset] [] := H225.icmpF at_338 (XT.ii_ne_f b5)
    have H227 : Hr x b_at Z EL1 7 39 h4 [ca] 342 #[.val (.int p0), .val (.long p1), .second, .val (.int p2), .val (.int p3), .val (.int p4), .val (.ref ca), .val (.int (p0 &&& (3 : Int32))), .val (.ref s), .unset, .unset] [.null] := H226.aconstNull at_341
    have H228 : Hr x b_at Z EL1 7 39 h4 [ca] 344 #[.val (.int p0), .val (.long p1), .second, .val (.int p2), .val (.int p3), .val (.int p4), .val (.ref ca), .val (.int (p0 &&& (3 : Int32))), .val (.null), .unset, .unset] [] := H227.astore at_342
    have H229 : Hr x b_at Z EL1 7 39 h4 [ca] 346 #[.val (.int p0), .val (.long p1), .second, .val (.int p2), .val (.int p3), .val (.int p4), .val (.ref ca), .val (.int (p0 &&& (3 : Int32))), .val (.null), .unset, .unset] [.null] := H228.aload at_344
    obtain ⟨_, h5, _, ⟨rfl, rfl⟩, K5, H230⟩ := H229.callS (argsL := [.null]) (rest := []) (Wr := 0) (ct_namedN hw x.l x.nar x.kn hnar h4 va rb kf cl Sv Av Ev Fv hcl sr tr sk tk Gr Gk Tr Tk) sub0 (w35 hw) (w36 hw) (w37 hw) (w38 hw) at_346 pd_named rfl (hf := by first | decide | (simp [b_at, Bx.R]; done) | (simp [b_at, Bx.R]; omega)) (hl := by first | decide | (simp [b_at, Bx.R]; done) | (simp [b_at, Bx.R]; omega)) (hc := by first | decide | (simp [b_at, Bx.R]; done) | (simp [b_at, Bx.R]; omega)) (hs := by first | decide | (simp [b_at, Bx.R]; done) | (simp [b_at, Bx.R]; omega))
    have H230 : Hr x b_at Z EL1 8 41 h5 [ca] 349 #[.val (.int p0), .val (.long p1), .second, .val (.int p2), .val (.int p3), .val (.int p4), .val (.ref ca), .val (.int (p0 &&& (3 : Int32))), .val (.null), .unset, .unset] [.null] := H230
    have H231 : Hr x b_at Z EL1 8 41 h5 [ca] 351 #[.val (.int p0), .val (.long p1), .second, .val (.int p2), .val (.int p3), .val (.int p4), .val (.ref ca), .val (.int (p0 &&& (3 : Int32))), .val (.null), .val (.null), .unset] [] := H230.astore at_349
    have H232 : Hr x b_at Z EL1 8 41 h5 [ca] 353 #[.val (.int p0), .val (.long p1), .second, .val (.int p2), .val (.int p3), .val (.int p4), .val (.ref ca), .val (.int (p0 &&& (3 : Int32))), .val (.null), .val (.null), .unset] [.null] := H231.aload at_351
    have H233 : Hr x b_at Z EL1 8 41 h5 [ca] 356 #[.val (.int p0), .val (.long p1), .second, .val (.int p2), .val (.int p3), .val (.int p4), .val (.ref ca), .val (.int (p0 &&& (3 : Int32))), .val (.null), .val (.null), .unset] [] := H232.ifnonnullF at_353
    have H234 : Hr x b_at Z EL1 8 41 h5 [ca] 357 #[.val (.int p0), .val (.long p1), .second, .val (.int p2), .val (.int p3), .val (.int p4), .val (.ref ca), .val (.int (p0 &&& (3 : Int32))), .val (.null), .val (.null), .unset] [.null] := H233.aconstNull at_356
    have H235 : Hr x b_at Z EL1 8 41 h5 [ca] 359 #[.val (.int p0), .val (.long p1), .second, .val (.int p2), .val (.int p3), .val (.int p4), .val (.ref ca), .val (.int (p0 &&& (3 : Int32))), .val (.null), .val (.null), .val (.null)] [] := H234.astore at_357
    have H236 : Hr x b_at Z EL1 8 41 h5 [ca] 401 #[.val (.int p0), .val (.long p1), .second, .val (.int p2), .val (.int p3), .val (.int p4), .val (.ref ca), .val (.int (p0 &&& (3 : Int32))), .val (.null), .val (.null), .val (.null)] [] := H235.goto at_359
    have H237 : Hr x b_at Z EL1 8 41 h5 [ca] 403 #[.val (.int p0), .val (.long p1), .second, .val (.int p2), .val (.int p3), .val (.int p4), .val (.ref ca), .val (.int (p0 &&& (3 : Int32))), .val (.null), .val (.null), .val (.null)] [.null] := H236.aload at_401
    have H238 : Hr x b_at Z EL1 8 41 h5 [ca] 405 #[.val (.int p0), .val (.long p1), .second, .val (.int p2), .val (.int p3), .val (.int p4), .val (.ref ca), .val (.int (p0 &&& (3 : Int32))), .val (.null), .val (.null), .val (.null)] [.null, .null] := H237.aload at_403
    have H239 : Hr x b_at Z EL1 8 41 h5 [ca] 408 #[.val (.int p0), .val (.long p1), .second, .val (.int p2), .val (.int p3), .val (.int p4), .val (.ref ca), .val (.int (p0 &&& (3 : Int32))), .val (.null), .val (.null), .val (.null)] [] := H238.acmpF at_405 (by decide)
    have H240 : Hr x b_at Z EL1 8 41 h5 [ca] 409 #[.val (.int p0), .val (.long p1), .second, .val (.int p2), .val (.int p3), .val (.int p4), .val (.ref ca), .val (.int (p0 &&& (3 : Int32))), .val (.null), .val (.null), .val (.null)] [.int (1 : Int32)] := H239.iconst at_408
    have H241 : Hr x b_at Z EL1 8 41 h5 [ca] 413 #[.val (.int p0), .val (.long p1), .second, .val (.int p2), .val (.int p3), .val (.int p4), .val (.ref ca), .val (.int (p0 &&& (3 : Int32))), .val (.null), .val (.null), .val (.null)] [.int (1 : Int32)] := H240.goto at_409
    exact H241.finZ at_413 (t := .boolean) (by first | rfl | decide) ⟨rfl, rfl⟩ sub0
  · have z241 := b5
    have H242 : Hr x b_at Z EL1 7 39 h4 [ca] 344 #[.val (.int p0), .val (.long p1), .second, .val (.int p2), .val (.int p3), .val (.int p4), .val (.ref ca), .val (.int (p0 &&& (3 : Int32))), .val (.ref s), .unset, .unset] [] := H225.icmpT at_338 (XT.ii_ne_t b5)
    have H243 : Hr x b_at Z EL1 7 39 h4 [ca] 346 #[.val (.int p0), .val (.long p1), .second, .val (.int p2), .val (.int p3), .val (.int p4), .val (.ref ca), .val (.int (p0 &&& (3 : Int32))), .val (.ref s), .unset, .unset] [.ref s] := H242.aload at_344
    obtain ⟨_, h5, _, ⟨rfl, rfl⟩, K5, H244⟩ := H243.callS (argsL := [.ref s]) (rest := []) (Wr := 0) (ct_named hw x.l x.nar x.kn hnar h4 va rb kf cl Sv Av Ev Fv hcl sr tr sk tk Gr Gk Tr Tk s t bs Fs cz O hcz) sub0 (w35 hw) (w36 hw) (w37 hw) (w38 hw) at_346 pd_named rfl (hf := by first | decide | (simp [b_at, Bx.R]; done) | (simp [b_at, Bx.R]; omega)) (hl := by first | decide | (simp [b_at, Bx.R]; done) | (simp [b_at, Bx.R]; omega)) (hc := by first | decide | (simp [b_at, Bx.R]; done) | (simp [b_at, Bx.R]; omega)) (hs := by first | decide | (simp [b_at, Bx.R]; done) | (simp [b_at, Bx.R]; omega))
    have H244 : Hr x b_at Z EL1 8 41 h5 [ca] 349 #[.val (.int p0), .val (.long p1), .second, .val (.int p2), .val (.int p3), .val (.int p4), .val (.ref ca), .val (.int (p0 &&& (3 : Int32))), .val (.ref s), .unset, .unset] [who bs rb kf] := H244
    have hwr : (who bs rb kf).isRef = true := by unfold who; split; rfl; split <;> rfl
    have hwc : (who bs rb kf).category = 1 := by unfold who; split; rfl; split <;> rfl
    have H245 : Hr x b_at Z EL1 8 41 h5 [ca] 351 #[.val (.int p0), .val (.long p1), .second, .val (.int p2), .val (.int p3), .val (.int p4), .val (.ref ca), .val (.int (p0 &&& (3 : Int32))), .val (.ref s), .val (who bs rb kf), .unset] [] := H244.astore at_349 (hl := XS.store1 (o := .unset) rfl (Or.inl rfl) hwc) (hv := hwr)
    have H246 : Hr x b_at Z EL1 8 41 h5 [ca] 353 #[.val (.int p0), .val (.long p1), .second, .val (.int p2), .val (.int p3), .val (.int p4), .val (.ref ca), .val (.int (p0 &&& (3 : Int32))), .val (.ref s), .val (who bs rb kf), .unset] [.ref s] := H245.aload at_351
    have H247 : Hr x b_at Z EL1 8 41 h5 [ca] 362 #[.val (.int p0), .val (.long p1), .second, .val (.int p2), .val (.int p3), .val (.int p4), .val (.ref ca), .val (.int (p0 &&& (3 : Int32))), .val (.ref s), .val (who bs rb kf), .unset] [] := H246.ifnonnullT at_353
    have H248 : Hr x b_at Z EL1 8 41 h5 [ca] 364 #[.val (.int p0), .val (.long p1), .second, .val (.int p2), .val (.int p3), .val (.int p4), .val (.ref ca), .val (.int (p0 &&& (3 : Int32))), .val (.ref s), .val (who bs rb kf), .unset] [.ref s] := H247.aload at_362
    obtain ⟨la, lu, h6, E6, L6, n6, H249⟩ := H248.ldcS (n := 32) (bs := tR) (z := 8) (w68 hw) (wStr hw) (ew hw) (by decide) (by decide) (by decide) (by decide) at_364 (by decide) (by decide) hnar (by first | decide | (simp [b_at, Bx.R]; done) | (simp [b_at, Bx.R]; omega)) (by first | decide | (simp [b_at, Bx.R]; done) | (simp [b_at, Bx.R]; omega))
    have H249 : Hr x b_at Z EL1 10 77 h6 [ca] 366 #[.val (.int p0), .val (.long p1), .second, .val (.int p2), .val (.int p3), .val (.int p4), .val (.ref ca), .val (.int (p0 &&& (3 : Int32))), .val (.ref s), .val (who bs rb kf), .unset] [.ref la, .ref s] := H249
    have Fs5 := (Fs.keep K5 nin0 nin0).ext E6
    obtain ⟨_, h7, _, ⟨rfl, rfl, e7⟩, K7, H250⟩ := H249.callV (argsL := [.ref la]) (rest := []) (Wr := 0) (a := s) (ct_seq hw x.l x.nar x.kn hnar h6 s t la lu bs tR Fs5 L6 cz O hcz) sub0 Fs5.1 (w71 hw) (w59 hw) (w61 hw) (w61 hw) (w60 hw) (w8 hw) (w62 hw) at_366 pd_seq rfl (hf := by first | decide | (simp [b_at, Bx.R]; done) | (simp [b_at, Bx.R]; omega)) (hl := by first | decide | (simp [b_at, Bx.R]; done) | (simp [b_at, Bx.R]; omega)) (hc := by first | decide | (simp [b_at, Bx.R]; done) | (simp [b_at, Bx.R]; omega)) (hs := by first | decide | (simp [b_at, Bx.R]; done) | (simp [b_at, Bx.R]; omega))
    rw [e7] at H250
    have H250 : Hr x b_at Z EL1 10 77 h6 [ca] 369 #[.val (.int p0), .val (.long p1), .second, .val (.int p2), .val (.int p3), .val (.int p4), .val (.ref ca), .val (.int (p0 &&& (3 : Int32))), .val (.ref s), .val (who bs rb kf), .unset] [.int (if bs = tR then 1 else 0)] := H250
    by_cases b6 : bs = tR
    · have z250 := b6
      have H251 : Hr x b_at Z EL1 10 77 h6 [ca] 372 #[.val (.int p0), .val (.long p1), .second, .val (.int p2), .val (.int p3), .val (.int p4), .val (.ref ca), .val (.int (p0 &&& (3 : Int32))), .val (.ref s), .val (who bs rb kf), .unset] [] := H250.ifF at_369 (XT.i0_eq_f (by rw [if_pos b6]; decide))
      have H252 : Hr x b_at Z EL1 10 77 h6 [ca] 375 #[.val (.int p0), .val (.long p1), .second, .val (.int p2), .val (.int p3), .val (.int p4), .val (.ref ca), .val (.int (p0 &&& (3 : Int32))), .val (.ref s), .val (who bs rb kf), .unset] [.ref rb] := H251.getS (w88 hw) (Sr.ext H251.old) at_372
      have H253 : Hr x b_at Z EL1 10 77 h6 [ca] 377 #[.val (.int p0), .val (.long p1), .second, .val (.int p2), .val (.int p3), .val (.int p4), .val (.ref ca), .val (.int (p0 &&& (3 : Int32))), .val (.ref s), .val (who bs rb kf), .val (.ref rb)] [] := H252.astore at_375
      have H254 : Hr x b_at Z EL1 10 77 h6 [ca] 401 #[.val (.int p0), .val (.long p1), .second, .val (.int p2), .val (.int p3), .val (.int p4), .val (.ref ca), .val (.int (p0 &&& (3 : Int32))), .val (.ref s), .val (who bs rb kf), .val (.ref rb)] [] := H253.goto at_377
      have H255 : Hr x b_at Z EL1 10 77 h6 [ca] 403 #[.val (.int p0), .val (.long p1), .second, .val (.int p2), .val (.int p3), .val (.int p4), .val (.ref ca), .val (.int (p0 &&& (3 : Int32))), .val (.ref s), .val (who bs rb kf), .val (.ref rb)] [who bs rb kf] := H254.aload at_401 (hv := hwr)
      have H256 : Hr x b_at Z EL1 10 77 h6 [ca] 405 #[.val (.int p0), .val (.long p1), .second, .val (.int p2), .val (.int p3), .val (.int p4), .val (.ref ca), .val (.int (p0 &&& (3 : Int32))), .val (.ref s), .val (who bs rb kf), .val (.ref rb)] [.ref rb, who bs rb kf] := H255.aload at_403
      have H257 : Hr x b_at Z EL1 10 77 h6 [ca] 408 #[.val (.int p0), .val (.long p1), .second, .val (.int p2), .val (.int p3), .val (.int p4), .val (.ref ca), .val (.int (p0 &&& (3 : Int32))), .val (.ref s), .val (who bs rb kf), .val (.ref rb)] [] := H256.acmpF at_405 (by rw [show who bs rb kf = .ref rb by simp [who, b6]]; simp [XT.acmp]) (hu := hwr)
      have H258 : Hr x b_at Z EL1 10 77 h6 [ca] 409 #[.val (.int p0), .val (.long p1), .second, .val (.int p2), .val (.int p3), .val (.int p4), .val (.ref ca), .val (.int (p0 &&& (3 : Int32))), .val (.ref s), .val (who bs rb kf), .val (.ref rb)] [.int (1 : Int32)] := H257.iconst at_408
      have H259 : Hr x b_at Z EL1 10 77 h6 [ca] 413 #[.val (.int p0), .val (.long p1), .second, .val (.int p2), .val (.int p3), .val (.int p4), .val (.ref ca), .val (.int (p0 &&& (3 : Int32))), .val (.ref s), .val (who bs rb kf), .val (.ref rb)] [.int (1 : Int32)] := H258.goto at_409
      exact H259.finZ at_413 (t := .boolean) (by first | rfl | decide) ⟨rfl, rfl⟩ sub0
    · have z259 := b6
      have H260 : Hr x b_at Z EL1 10 77 h6 [ca] 380 #[.val (.int p0), .val (.long p1), .second, .val (.int p2), .val (.int p3), .val (.int p4), .val (.ref ca), .val (.int (p0 &&& (3 : Int32))), .val (.ref s), .val (who bs rb kf), .unset] [] := H250.ifT at_369 (XT.i0_eq_t (if_neg b6))
      have H261 : Hr x b_at Z EL1 10 77 h6 [ca] 382 #[.val (.int p0), .val (.long p1), .second, .val (.int p2), .val (.int p3), .val (.int p4), .val (.ref ca), .val (.int (p0 &&& (3 : Int32))), .val (.ref s), .val (who bs rb kf), .unset] [.ref s] := H260.aload at_380
      obtain ⟨lb, lv, h8, E8, L8, n8, H262⟩ := H261.ldcS (n := 20) (bs := tK) (z := 5) (w72 hw) (wStr hw) (ew hw) (by decide) (by decide) (by decide) (by decide) at_382 (by decide) (by decide) hnar (by first | decide | (simp [b_at, Bx.R]; done) | (simp [b_at, Bx.R]; omega)) (by first | decide | (simp [b_at, Bx.R]; done) | (simp [b_at, Bx.R]; omega))
      have H262 : Hr x b_at Z EL1 12 101 h8 [ca] 384 #[.val (.int p0), .val (.long p1), .second, .val (.int p2), .val (.int p3), .val (.int p4), .val (.ref ca), .val (.int (p0 &&& (3 : Int32))), .val (.ref s), .val (who bs rb kf), .unset] [.ref lb, .ref s] := H262
      obtain ⟨_, h9, _, ⟨rfl, rfl, e9⟩, K9, H263⟩ := H262.callV (argsL := [.ref lb]) (rest := []) (Wr := 0) (a := s) (ct_seq hw x.l x.nar x.kn hnar h8 s t lb lv bs tK (Fs5.ext E8) L8 cz O hcz) sub0 (Fs5.ext E8).1 (w71 hw) (w59 hw) (w61 hw) (w61 hw) (w60 hw) (w8 hw) (w62 hw) at_384 pd_seq rfl (hf := by first | decide | (simp [b_at, Bx.R]; done) | (simp [b_at, Bx.R]; omega)) (hl := by first | decide | (simp [b_at, Bx.R]; done) | (simp [b_at, Bx.R]; omega)) (hc := by first | decide | (simp [b_at, Bx.R]; done) | (simp [b_at, Bx.R]; omega)) (hs := by first | decide | (simp [b_at, Bx.R]; done) | (simp [b_at, Bx.R]; omega))
      rw [e9] at H263
      have H263 : Hr x b_at Z EL1 12 101 h8 [ca] 387 #[.val (.int p0), .val (.long p1), .second, .val (.int p2), .val (.int p3), .val (.int p4), .val (.ref ca), .val (.int (p0 &&& (3 : Int32))), .val (.ref s), .val (who bs rb kf), .unset] [.int (if bs = tK then 1 else 0)] := H263
      by_cases b7 : bs = tK
      · have z263 := b7
        have H264 : Hr x b_at Z EL1 12 101 h8 [ca] 390 #[.val (.int p0), .val (.long p1), .second, .val (.int p2), .val (.int p3), .val (.int p4), .val (.ref ca), .val (.int (p0 &&& (3 : Int32))), .val (.ref s), .val (who bs rb kf), .unset] [] := H263.ifF at_387 (XT.i0_eq_f (by rw [if_pos b7]; decide))
        have H265 : Hr x b_at Z EL1 12 101 h8 [ca] 393 #[.val (.int p0), .val (.long p1), .second, .val (.int p2), .val (.int p3), .val (.int p4), .val (.ref ca), .val (.int (p0 &&& (3 : Int32))), .val (.ref s), .val (who bs rb kf), .unset] [.ref kf] := H264.getS (w73 hw) (Sk.ext H264.old) at_390
        have H266 : Hr x b_at Z EL1 12 101 h8 [ca] 395 #[.val (.int p0), .val (.long p1), .second, .val (.int p2), .val (.int p3), .val (.int p4), .val (.ref ca), .val (.int (p0 &&& (3 : Int32))), .val (.ref s), .val (who bs rb kf), .val (.ref kf)] [] := H265.astore at_393
        have H267 : Hr x b_at Z EL1 12 101 h8 [ca] 401 #[.val (.int p0), .val (.long p1), .second, .val (.int p2), .val (.int p3), .val (.int p4), .val (.ref ca), .val (.int (p0 &&& (3 : Int32))), .val (.ref s), .val (who bs rb kf), .val (.ref kf)] [] := H266.goto at_395
        have H268 : Hr x b_at Z EL1 12 101 h8 [ca] 403 #[.val (.int p0), .val (.long p1), .second, .val (.int p2), .val (.int p3), .val (.int p4), .val (.ref ca), .val (.int (p0 &&& (3 : Int32))), .val (.ref s), .val (who bs rb kf), .val (.ref kf)] [who bs rb kf] := H267.aload at_401 (hv := hwr)
        have H269 : Hr x b_at Z EL1 12 101 h8 [ca] 405 #[.val (.int p0), .val (.long p1), .second, .val (.int p2), .val (.int p3), .val (.int p4), .val (.ref ca), .val (.int (p0 &&& (3 : Int32))), .val (.ref s), .val (who bs rb kf), .val (.ref kf)] [.ref kf, who bs rb kf] := H268.aload at_403
        have H270 : Hr x b_at Z EL1 12 101 h8 [ca] 408 #[.val (.int p0), .val (.long p1), .second, .val (.int p2), .val (.int p3), .val (.int p4), .val (.ref ca), .val (.int (p0 &&& (3 : Int32))), .val (.ref s), .val (who bs rb kf), .val (.ref kf)] [] := H269.acmpF at_405 (by rw [show who bs rb kf = .ref kf by simp [who, b7, show ¬ tK = tR by decide]]; simp [XT.acmp]) (hu := hwr)
        have H271 : Hr x b_at Z EL1 12 101 h8 [ca] 409 #[.val (.int p0), .val (.long p1), .second, .val (.int p2), .val (.int p3), .val (.int p4), .val (.ref ca), .val (.int (p0 &&& (3 : Int32))), .val (.ref s), .val (who bs rb kf), .val (.ref kf)] [.int (1 : Int32)] := H270.iconst at_408
        have H272 : Hr x b_at Z EL1 12 101 h8 [ca] 413 #[.val (.int p0), .val (.long p1), .second, .val (.int p2), .val (.int p3), .val (.int p4), .val (.ref ca), .val (.int (p0 &&& (3 : Int32))), .val (.ref s), .val (who bs rb kf), .val (.ref kf)] [.int (1 : Int32)] := H271.goto at_409
        exact H272.finZ at_413 (t := .boolean) (by first | rfl | decide) ⟨rfl, rfl⟩ sub0
      · have z272 := b7
        have H273 : Hr x b_at Z EL1 12 101 h8 [ca] 398 #[.val (.int p0), .val (.long p1), .second, .val (.int p2), .val (.int p3), .val (.int p4), .val (.ref ca), .val (.int (p0 &&& (3 : Int32))), .val (.ref s), .val (who bs rb kf), .unset] [] := H263.ifT at_387 (XT.i0_eq_t (if_neg b7))
        have H274 : Hr x b_at Z EL1 12 101 h8 [ca] 399 #[.val (.int p0), .val (.long p1), .second, .val (.int p2), .val (.int p3), .val (.int p4), .val (.ref ca), .val (.int (p0 &&& (3 : Int32))), .val (.ref s), .val (who bs rb kf), .unset] [.null] := H273.aconstNull at_398
        have H275 : Hr x b_at Z EL1 12 101 h8 [ca] 401 #[.val (.int p0), .val (.long p1), .second, .val (.int p2), .val (.int p3), .val (.int p4), .val (.ref ca), .val (.int (p0 &&& (3 : Int32))), .val (.ref s), .val (who bs rb kf), .val (.null)] [] := H274.astore at_399
        have H276 : Hr x b_at Z EL1 12 101 h8 [ca] 403 #[.val (.int p0), .val (.long p1), .second, .val (.int p2), .val (.int p3), .val (.int p4), .val (.ref ca), .val (.int (p0 &&& (3 : Int32))), .val (.ref s), .val (who bs rb kf), .val (.null)] [who bs rb kf] := H275.aload at_401 (hv := hwr)
        have H277 : Hr x b_at Z EL1 12 101 h8 [ca] 405 #[.val (.int p0), .val (.long p1), .second, .val (.int p2), .val (.int p3), .val (.int p4), .val (.ref ca), .val (.int (p0 &&& (3 : Int32))), .val (.ref s), .val (who bs rb kf), .val (.null)] [.null, who bs rb kf] := H276.aload at_403
        have H278 : Hr x b_at Z EL1 12 101 h8 [ca] 408 #[.val (.int p0), .val (.long p1), .second, .val (.int p2), .val (.int p3), .val (.int p4), .val (.ref ca), .val (.int (p0 &&& (3 : Int32))), .val (.ref s), .val (who bs rb kf), .val (.null)] [] := H277.acmpF at_405 (by rw [show who bs rb kf = .null by simp [who, b6, b7]]; simp [XT.acmp]) (hu := hwr)
        have H279 : Hr x b_at Z EL1 12 101 h8 [ca] 409 #[.val (.int p0), .val (.long p1), .second, .val (.int p2), .val (.int p3), .val (.int p4), .val (.ref ca), .val (.int (p0 &&& (3 : Int32))), .val (.ref s), .val (who bs rb kf), .val (.null)] [.int (1 : Int32)] := H278.iconst at_408
        have H280 : Hr x b_at Z EL1 12 101 h8 [ca] 413 #[.val (.int p0), .val (.long p1), .second, .val (.int p2), .val (.int p3), .val (.int p4), .val (.ref ca), .val (.int (p0 &&& (3 : Int32))), .val (.ref s), .val (who bs rb kf), .val (.null)] [.int (1 : Int32)] := H279.goto at_409
        exact H280.finZ at_413 (t := .boolean) (by first | rfl | decide) ⟨rfl, rfl⟩ sub0
theorem len_is {args : Array Value} {s : State} {t : Term} {y : Addr} {cl : Cell} {n : Nat} (h : (Term.length t).eval args s none [] s = some (.int (Int32.ofNat n))) (ht : t.eval args s none [] s = some (.ref y)) (ha : s.arrayAt? y = some cl) (hn : n < 2147483648) : cl.slots.size = n := by
  by_cases q : cl.slots.size < 2 ^ 31
  · rw [len_f ht ha q] at h
    exact ofNat_inj (by omega) hn (Value.int.inj (Option.some.inj h))
  · simp [Term.eval, ht, ha, q] at h
theorem eqv_ref {args : Array Value} {s : State} {t u : Term} {y : Addr} (hu : u.eval args s none [] s = some (.ref y)) (h : (Jvm.Cond.eq t u).value args s none s [] = some true) : t.eval args s none [] s = some (.ref y) := by
  obtain ⟨p, q, e1, e2, k1, k2⟩ := cmp_v (Or.inl h)
  cases hu.symm.trans e2
  have hp : p.isRef = true := k2.2
  rw [e1, gotT (eq_R e1 e2 hp rfl) h]
theorem list_is {L vs : List Value} (hl : L.length = vs.length) (h : ∀ i, i < vs.length → L[i]? = vs[i]?) : L = vs := List.ext_getElem? fun i => by
  by_cases hi : i < vs.length
  · exact h i hi
  · rw [List.getElem?_eq_none (by omega), List.getElem?_eq_none (by omega)]
theorem slot_is {args : Array Value} {s : State} {t : Term} {y : Addr} {cl : Cell} {k : Int32} {i : Nat} {v : Value} (h : (Term.elem t (.int k)).eval args s none [] s = some v) (ht : t.eval args s none [] s = some (.ref y)) (hc : s.heap[y]? = some cl) (hk : k.toNatClampNeg = i) : cl.slots.toList[i]? = some v := by
  have := (elem_in h ht (Term.int_eval k) hc).2
  rw [hk] at this
  rw [Array.getElem?_toList]; exact this
set_option maxRecDepth 65536 in
set_option maxHeartbeats 4000000 in
theorem comes_1 {Post : Tables → Env → Array Value → State → Outcome → State → Prop} (hpost : ∀ tb e args s v u, (limb_1_1.after args s (.returned v) u = true ∧ limb_1_2.after args s (.returned v) u = true ∧ True) → FramedW s (.returned v) u (Jvm.fieldLocs frame_1_writes args s ++ Jvm.arrayLocs frame_1_arrays args s ++ Jvm.staticLocs frame_1_statics s) 24 3264 → Post tb e args s (.returned v) u) :
    ArmFor flags0 classFile x code maxLocals ret World_1 tables_1 room_1 Calls_1 rest_1 Pre_1 Post := by
  intro l hfl _ _ p e ha hc hk s m args below hf hA hF happ hP
  obtain ⟨hcalls, hrest, hpre⟩ := hP
  obtain ⟨-, -, -, hnamed, -, -, -, hat⟩ := (Spec.applies_iff hf).mp happ
  obtain ⟨hg, hn⟩ := and_e (Cond.before_iff.mp (show (Jvm.Cond.and given_1 narrow_1).before args s = true from hpre))
  obtain ⟨g0, hg⟩ := and_e hg
  obtain ⟨g1, hg⟩ := and_e hg
  obtain ⟨g2, hg⟩ := and_e hg
  obtain ⟨g3, hg⟩ := and_e hg
  obtain ⟨g4, hg⟩ := and_e hg
  obtain ⟨v0, v1, v2, v3, v4, rfl⟩ : ∃ v0 v1 v2 v3 v4 : Value, args = #[v0, v1, v2, v3, v4] := by
    have hs : args.size = 5 := by simpa [Cond.value, given_1] using g0
    obtain ⟨L⟩ := args
    match L, hs with
    | [v0, v1, v2, v3, v4], _ => exact ⟨v0, v1, v2, v3, v4, rfl⟩
  have hw := fun d (hd : d ∈ tables_1) => atoms_spec (ws := Jvm.Cond.code x code maxLocals ret :: tables_1) hat d (List.mem_cons_of_mem _ hd)
  obtain ⟨hsets, hown0⟩ := atoms_of _ (rest_1_c_eq ▸ (show rest_1_c.before _ s = true from hrest))
  obtain ⟨i0, e0⟩ := is_v g1
  obtain rfl : v0 = (.int i0) := Option.some.inj e0
  obtain ⟨i1, e1⟩ := isL_v g2
  obtain rfl : v1 = (.long i1) := Option.some.inj e1
  obtain ⟨i2, e2⟩ := is_v g3
  obtain rfl : v2 = (.int i2) := Option.some.inj e2
  obtain ⟨i3, e3⟩ := is_v g4
  obtain rfl : v3 = (.int i3) := Option.some.inj e3
  obtain ⟨i4, e4⟩ := is_v hg
  obtain rfl : v4 = (.int i4) := Option.some.inj e4
  have n5 := not_v (Cond.before_iff.mp (hsets _ (List.mem_of_getElem? (i := 2) rfl)))
  obtain ⟨cz, ecz⟩ := is_v (Cond.before_iff.mp (hsets _ (List.mem_of_getElem? (i := 1) rfl)))
  have O : Sta s s.heap "java/lang/String" "COMPACT_STRINGS" "Z" (.int cz) := Sta.start ecz (Or.inl (hsets _ (List.mem_of_getElem? (i := 0) rfl)))
  have hcz : ¬ (cz = (0 : Int32)) := gotF (Cond.eq_ints ecz (Term.int_eval (0))) n5
  have hCH : CHv s EL1 s.vm s.heap := CHv.start (ew hw) (fun p hp => hcalls.1 p hp) (hsets _ (List.mem_of_getElem? (i := 2) rfl)) (w24 hw) (w7 hw)
  have hfit : Fit s := fun {y c} hc i hi => by
    obtain ⟨ha, rfl⟩ := Array.getElem?_eq_some_iff.mp hc
    have q := List.all_eq_true.mp ((Array.all_eq_true_iff_forall_mem.mp hF) _ (Array.getElem_mem ha)) i (List.mem_range.mpr hi)
    simpa [Array.getElem?_eq_getElem hi] using q
  obtain ⟨c0, hn⟩ := and_e hn
  obtain ⟨c1, hn⟩ := and_e hn
  obtain ⟨c2, hn⟩ := and_e hn
  obtain ⟨c3, hn⟩ := and_e hn
  obtain ⟨c4, hn⟩ := and_e hn
  obtain ⟨c5, hn⟩ := and_e hn
  obtain ⟨c6, hn⟩ := and_e hn
  obtain ⟨c7, hn⟩ := and_e hn
  obtain ⟨c8, hn⟩ := and_e hn
  obtain ⟨c9, hn⟩ := and_e hn
  obtain ⟨c10, hn⟩ := and_e hn
  obtain ⟨c11, hn⟩ := and_e hn
  obtain ⟨c12, hn⟩ := and_e hn
  obtain ⟨c13, hn⟩ := and_e hn
  obtain ⟨c14, hn⟩ := and_e hn
  obtain ⟨c15, hn⟩ := and_e hn
  obtain ⟨c16, hn⟩ := and_e hn
  obtain ⟨c17, hn⟩ := and_e hn
  obtain ⟨c18, hn⟩ := and_e hn
  obtain ⟨c19, hn⟩ := and_e hn
  obtain ⟨c20, hn⟩ := and_e hn
  obtain ⟨c21, hn⟩ := and_e hn
  obtain ⟨c22, hn⟩ := and_e hn
  obtain ⟨c23, hn⟩ := and_e hn
  obtain ⟨c24, hn⟩ := and_e hn
  obtain ⟨c25, hn⟩ := and_e hn
  obtain ⟨c26, hn⟩ := and_e hn
  have c27 := hn
  obtain ⟨va, tva⟩ := exa_v c1
  have Sva : Sta s s.heap "com/example/pigeonhole/pigeonhole/cli/Broker" "$VALUES" "[Lcom/example/pigeonhole/pigeonhole/cli/Broker;" (.ref va) := Sta.start tva (Or.inr ⟨(w37 hw), (w43 hw)⟩)
  obtain ⟨rb, trb⟩ := exa_v c3
  have Srb : Sta s s.heap "com/example/pigeonhole/pigeonhole/cli/Broker" "RABBITMQ" "Lcom/example/pigeonhole/pigeonhole/cli/Broker;" (.ref rb) := Sta.start trb (Or.inr ⟨(w37 hw), (w51 hw)⟩)
  obtain ⟨kf, tkf⟩ := exa_v c5
  have Skf : Sta s s.heap "com/example/pigeonhole/pigeonhole/cli/Broker" "KAFKA" "Lcom/example/pigeonhole/pigeonhole/cli/Broker;" (.ref kf) := Sta.start tkf (Or.inr ⟨(w37 hw), (w52 hw)⟩)
  obtain ⟨cl, Av⟩ := Arr.start tva c0
  have Ev := Exa.start tva c1
  have Fv := FitC.start hfit Av
  have hat2 := Arr.fin (Vm.Alike.refl _) Av
  have hsz := len_is (n := 2) (eqv_i (Term.int_eval (2)) c2) tva hat2 (by decide)
  have hcl : cl.slots.toList = [.ref rb, .ref kf] := list_is (by rw [Array.length_toList, hsz]; rfl) fun i hi => match i, hi with
    | 0, _ => slot_is (eqv_ref trb c4) tva Av.1 (by decide)
    | 1, _ => slot_is (eqv_ref tkf c6) tva Av.1 (by decide)
    | n + 2, hi => absurd hi (by simp)
  obtain ⟨sr, tsr⟩ := exa_v c7
  have Gsr : Fld s s.heap rb "com/example/pigeonhole/pigeonhole/cli/Broker" "settingValue" "Ljava/lang/String;" (.ref sr) := Fld.start ((fld_at trb).symm.trans tsr)
  obtain ⟨tr, ttr⟩ := arr_v c9
  obtain ⟨cltr, Atr⟩ := Arr.start ttr c9
  have ztr := len_is (n := 8) (eqv_i (Term.int_eval (8)) c10) ttr (Arr.fin (Vm.Alike.refl _) Atr) (by decide)
  have ltr : cltr.slots.toList = (tR).map Value.int := list_is (by rw [Array.length_toList, ztr]; rfl) fun i hi => match i, hi with
    | 0, _ => slot_is (eqv_i (Term.int_eval (114)) c15) ttr Atr.1 (by decide)
    | 1, _ => slot_is (eqv_i (Term.int_eval (97)) c16) ttr Atr.1 (by decide)
    | 2, _ => slot_is (eqv_i (Term.int_eval (98)) c17) ttr Atr.1 (by decide)
    | 3, _ => slot_is (eqv_i (Term.int_eval (98)) c18) ttr Atr.1 (by decide)
    | 4, _ => slot_is (eqv_i (Term.int_eval (105)) c19) ttr Atr.1 (by decide)
    | 5, _ => slot_is (eqv_i (Term.int_eval (116)) c20) ttr Atr.1 (by decide)
    | 6, _ => slot_is (eqv_i (Term.int_eval (109)) c21) ttr Atr.1 (by decide)
    | 7, _ => slot_is (eqv_i (Term.int_eval (113)) c22) ttr Atr.1 (by decide)
    | n + 8, hi => absurd hi (by simp [tR])
  have Tsr : Str s s.heap sr tr tR := ⟨Exa.start tsr c7, Fld.start ((fld_at tsr).symm.trans (eqv_i (Term.int_eval (0)) c8)), Fld.start ((fld_at tsr).symm.trans ttr), cltr, Atr, ltr, by simp [tR]⟩
  obtain ⟨sk, tsk⟩ := exa_v c11
  have Gsk : Fld s s.heap kf "com/example/pigeonhole/pigeonhole/cli/Broker" "settingValue" "Ljava/lang/String;" (.ref sk) := Fld.start ((fld_at tkf).symm.trans tsk)
  obtain ⟨tk, ttk⟩ := arr_v c13
  obtain ⟨cltk, Atk⟩ := Arr.start ttk c13
  have ztk := len_is (n := 5) (eqv_i (Term.int_eval (5)) c14) ttk (Arr.fin (Vm.Alike.refl _) Atk) (by decide)
  have ltk : cltk.slots.toList = (tK).map Value.int := list_is (by rw [Array.length_toList, ztk]; rfl) fun i hi => match i, hi with
    | 0, _ => slot_is (eqv_i (Term.int_eval (107)) c23) ttk Atk.1 (by decide)
    | 1, _ => slot_is (eqv_i (Term.int_eval (97)) c24) ttk Atk.1 (by decide)
    | 2, _ => slot_is (eqv_i (Term.int_eval (102)) c25) ttk Atk.1 (by decide)
    | 3, _ => slot_is (eqv_i (Term.int_eval (107)) c26) ttk Atk.1 (by decide)
    | 4, _ => slot_is (eqv_i (Term.int_eval (97)) c27) ttk Atk.1 (by decide)
    | n + 5, hi => absurd hi (by simp [tK])
  have Tsk : Str s s.heap sk tk tK := ⟨Exa.start tsk c11, Fld.start ((fld_at tsk).symm.trans (eqv_i (Term.int_eval (0)) c12)), Fld.start ((fld_at tsk).symm.trans ttk), cltk, Atk, ltk, by simp [tK]⟩
  obtain ⟨n, o, h1, h2, h3, _, L, sn, rfl, ⟨rfl, -⟩, -, -, N, -, hnw, hq⟩ := ct_law hw l false false rfl s.heap i0 i1 i2 i3 i4 va rb kf cl Sva Av Ev Fv hcl sr tr sk tk Gsr Gsk Tsr Tsk Srb Skf cz O hcz tables_1 p e ha hc hk s m _ below hf ((Spec.applies_iff_loose hf).mp happ).1 ⟨rfl, State.Warmed39.refl s, rfl, hCH, Ext.rfl' _, fun _ q => nomatch q⟩ (fun q => nomatch q)
  refine ⟨n, _, h1, h2, h3, hpost _ _ _ _ _ _ ⟨Cond.after_iff.mpr rfl, Cond.after_iff.mpr (eq_i res_at (Term.int_eval (1)) rfl), trivial⟩ ⟨hq.1, hq.2.1, hq.2.2.1, (hq.2.2.2.sift fun y hy => Or.inr (N y hy)).mono (by decide) (by decide)⟩⟩
theorem main_1_1 : Claimed_1_1 := comes_1 fun _ _ _ _ _ _ h hF => ⟨h.1, hF⟩
theorem main_1_2 : Claimed_1_2 := comes_1 fun _ _ _ _ _ _ h hF => ⟨h.2.1, hF⟩
end Jvm.Pilot.@@N@@
namespace Jvm.Pilot.@@N@@
open Jvm Jvm.ClassFile Sem Op Lib Jvm.Free Jvm.Stand Jvm.Pilot.@@N@@.Jvm.D
/-! MADE BY PROGRAM (witnessworld.py) out of the Statement's table words and the real class files: 22 classes; the members and pool entries that the words name. The judged class is class 1, her method 1. -/
namespace start1
open Jvm.ClassFile
def u (s : String) : CpInfo := .utf8 (stringToUtf16 s)
/-- a pool by its gaps: so many unusable entries, then the entry; so many at the end -/
def gap : Nat → List CpInfo → List CpInfo
  | 0, r => r
  | n + 1, r => .unusable :: gap n r
def poolList (es : List (Nat × CpInfo)) (last : Nat) : List CpInfo := es.foldr (fun e r => gap e.1 (e.2 :: r)) (gap last [])
def pool (es : List (Nat × CpInfo)) (last : Nat) : Array CpInfo := ⟨poolList es last⟩
def fileOf (pool : Array CpInfo) (this : Nat) (attrs : Array Attribute := #[]) (ms : Array MethodInfo := #[]) (fl : Nat := 33) (sup : Nat := 0) (ifs : Array Nat := #[]) (fds : Array FieldInfo := #[]) : ClassFile where
  minorVersion := 0
  majorVersion := 65
  constantPool := pool
  accessFlags := fl
  thisClass := this
  superClass := sup
  interfaces := ifs
  fields := fds
  methods := ms
  attributes := attrs
def plain (name : String) (sup : Option ClassId) : Class where
  name := name
  kind := .ordinary
  loader := none
  accessFlags := 33
  super := sup
  interfaces := #[]
  cf := none
  fields := #[]
  methods := #[]
  instanceTypes := #[]
  staticTypes := #[]
  resolved := #[]
  callSites := []
  init := .initialized
  statics := none
  mirror := none

def pool0 : Array CpInfo := pool [(5, u "<init>"), (0, u "()V"), (1, .class_ 10), (1, u "java/lang/Object"), (85, u "clone"), (0, u "()Ljava/lang/Object;")] 26

def k0c0 : Code := { maxStack := 0, maxLocals := 1, code := object_method_1_code, exceptionTable := #[], attributes := #[] }
def k0m0 : Method := { name := "<init>", desc := "()V", sig := { parameters := [], returnType := none }, accessFlags := 1, code := some k0c0 }
def k0m1 : Method := { name := "clone", desc := "()Ljava/lang/Object;", sig := { parameters := [], returnType := some (.object "java/lang/Object") }, accessFlags := 260, code := none }
/-- java/lang/Object -/
def k0 : Class := { plain "java/lang/Object" none with
  accessFlags := 33
  interfaces := #[]
  cf := some (fileOf pool0 8 #[] #[{ accessFlags := 1, nameIndex := 5, descriptorIndex := 6, attributes := #[] }, { accessFlags := 260, nameIndex := 96, descriptorIndex := 97, attributes := #[] }] 33 0 #[] #[])
  fields := #[]
  methods := #[k0m0, k0m1]
  instanceTypes := #[]
  staticTypes := #[]
  resolved := Array.replicate 124 none
  statics := none }

def pool1 : Array CpInfo := pool [(2, .class_ 4), (1, u "java/lang/Object"), (0, u "<init>"), (0, u "()V"), (0, .long 255), (1, .integer 2147483647), (0, .methodref 11 12), (0, .class_ 13), (0, .nameAndType 14 15), (0, u "com/example/pigeonhole/pigeonhole/cli/BrokerNamedPinLaw"), (0, u "cut"), (0, u "([CI)Ljava/lang/String;"), (0, .methodref 17 18), (0, .class_ 19), (0, .nameAndType 20 21), (0, u "com/example/pigeonhole/pigeonhole/cli/Broker"), (0, u "named"), (0, u "(Ljava/lang/String;)Lcom/example/pigeonhole/pigeonhole/cli/Broker;"), (0, .string 23), (0, u "rabbitmq"), (0, .methodref 25 26), (0, .class_ 27), (0, .nameAndType 28 29), (0, u "java/lang/String"), (0, u "equals"), (0, u "(Ljava/lang/Object;)Z"), (0, .fieldref 17 31), (0, .nameAndType 32 33), (0, u "RABBITMQ"), (0, u "Lcom/example/pigeonhole/pigeonhole/cli/Broker;"), (0, .string 35), (0, u "kafka"), (0, .fieldref 17 37), (0, .nameAndType 38 33), (0, u "KAFKA"), (0, .methodref 25 40), (0, .nameAndType 5 41), (0, u "([C)V"), (0, .methodref 25 43), (0, .nameAndType 44 45), (0, u "valueOf"), (0, u "(C)Ljava/lang/String;"), (2, u "law"), (0, u "(IJIII)Z")] 5

def k1m0 : Method := { name := "<init>", desc := "()V", sig := { parameters := [], returnType := none }, accessFlags := 1, code := none }
def k1c1 : Code := { maxStack := 6, maxLocals := 11, code := code, exceptionTable := #[], attributes := #[] }
def k1m1 : Method := { name := "law", desc := "(IJIII)Z", sig := { parameters := [.int, .long, .int, .int, .int], returnType := some .boolean }, accessFlags := 9, code := some k1c1 }
def k1c2 : Code := { maxStack := 7, maxLocals := 2, code := method_3_code, exceptionTable := #[], attributes := #[] }
def k1m2 : Method := { name := "cut", desc := "([CI)Ljava/lang/String;", sig := { parameters := [(.array .char), .int], returnType := some (.object "java/lang/String") }, accessFlags := 10, code := some k1c2 }
/-- com/example/pigeonhole/pigeonhole/cli/BrokerNamedPinLaw -/
def k1 : Class := { plain "com/example/pigeonhole/pigeonhole/cli/BrokerNamedPinLaw" (some 0) with
  accessFlags := 49
  interfaces := #[]
  cf := some (fileOf pool1 11 #[] #[{ accessFlags := 1, nameIndex := 5, descriptorIndex := 6, attributes := #[] }, { accessFlags := 9, nameIndex := 48, descriptorIndex := 49, attributes := #[] }, { accessFlags := 10, nameIndex := 14, descriptorIndex := 15, attributes := #[] }] 49 2 #[] #[])
  fields := #[]
  methods := #[k1m0, k1m1, k1m2]
  instanceTypes := #[]
  staticTypes := #[]
  resolved := Array.replicate 55 none
  statics := none }

def pool2 : Array CpInfo := pool [(1, .class_ 2), (0, u "java/io/Serializable"), (0, .class_ 4), (0, u "java/lang/Object")] 2

/-- java/io/Serializable -/
def k2 : Class := { plain "java/io/Serializable" (some 0) with
  accessFlags := 1537
  interfaces := #[]
  cf := some (fileOf pool2 1 #[] #[] 1537 3 #[] #[])
  fields := #[]
  methods := #[]
  instanceTypes := #[]
  staticTypes := #[]
  resolved := Array.replicate 7 none
  statics := none }

def pool3 : Array CpInfo := pool [(1, .class_ 2), (0, u "java/lang/Comparable"), (0, .class_ 4), (0, u "java/lang/Object")] 7

/-- java/lang/Comparable -/
def k3 : Class := { plain "java/lang/Comparable" (some 0) with
  accessFlags := 1537
  interfaces := #[]
  cf := some (fileOf pool3 1 #[] #[] 1537 3 #[] #[])
  fields := #[]
  methods := #[]
  instanceTypes := #[]
  staticTypes := #[]
  resolved := Array.replicate 12 none
  statics := none }

def pool4 : Array CpInfo := pool [(2, .class_ 4), (1, u "java/lang/CharSequence"), (42, .class_ 48), (0, u "java/lang/CharSequence$1CodePointIterator"), (10, .class_ 60), (0, u "java/lang/CharSequence$1CharIterator"), (5, .class_ 67), (0, u "java/lang/Object")] 63

/-- java/lang/CharSequence -/
def k4 : Class := { plain "java/lang/CharSequence" (some 0) with
  accessFlags := 1537
  interfaces := #[]
  cf := some (fileOf pool4 2 #[.nestMembers #[47, 59]] #[] 1537 66 #[] #[])
  fields := #[]
  methods := #[]
  instanceTypes := #[]
  staticTypes := #[]
  resolved := Array.replicate 131 none
  statics := none }

def pool5 : Array CpInfo := pool [(1, .class_ 2), (0, u "java/lang/constant/Constable"), (0, .class_ 4), (0, u "java/lang/Object")] 6

/-- java/lang/constant/Constable -/
def k5 : Class := { plain "java/lang/constant/Constable" (some 0) with
  accessFlags := 1537
  interfaces := #[]
  cf := some (fileOf pool5 1 #[] #[] 1537 3 #[] #[])
  fields := #[]
  methods := #[]
  instanceTypes := #[]
  staticTypes := #[]
  resolved := Array.replicate 11 none
  statics := none }

def pool6 : Array CpInfo := pool [(1, .class_ 2), (0, u "java/lang/constant/ConstantDesc"), (0, .class_ 4), (0, u "java/lang/Object")] 32

/-- java/lang/constant/ConstantDesc -/
def k6 : Class := { plain "java/lang/constant/ConstantDesc" (some 0) with
  accessFlags := 1537
  interfaces := #[]
  cf := some (fileOf pool6 1 #[] #[] 1537 3 #[] #[])
  fields := #[]
  methods := #[]
  instanceTypes := #[]
  staticTypes := #[]
  resolved := Array.replicate 37 none
  statics := none }

def pool7 : Array CpInfo := pool [(1, .methodref 2 3), (0, .class_ 4), (0, .nameAndType 5 6), (0, u "java/lang/Object"), (0, u "<init>"), (0, u "()V"), (0, .string 8), (0, u ""), (0, .fieldref 10 11), (0, .class_ 12), (0, .nameAndType 13 14), (0, u "java/lang/String"), (0, u "value"), (0, u "[B"), (0, .fieldref 10 16), (0, .nameAndType 17 18), (0, u "coder"), (0, u "B"), (2, u "hash"), (0, u "I"), (2, u "hashIsZero"), (0, u "Z"), (0, .methodref 10 28), (0, .nameAndType 5 29), (0, u "([CIILjava/lang/Void;)V"), (8, .fieldref 10 39), (0, .nameAndType 40 26), (0, u "COMPACT_STRINGS"), (1, .class_ 44), (1, u "java/lang/StringUTF16"), (0, u "compress"), (1, .methodref 42 48), (0, .nameAndType 49 50), (0, u "coderFromArrayLen"), (0, u "([BI)B"), (2, u "toBytes"), (53, .class_ 109), (1, u "java/lang/StringLatin1"), (67, .methodref 42 178), (0, .nameAndType 45 179), (0, u "([CII)[B"), (29, .methodref 10 210), (0, .nameAndType 5 211), (0, u "([BB)V"), (157, u "(C)Z"), (171, .methodref 107 542), (0, .nameAndType 543 544), (0, u "equals"), (0, u "([B[B)Z"), (28, u "(Ljava/lang/Object;)Z"), (1, .class_ 576), (0, u "java/lang/CharSequence"), (22, u "CASE_INSENSITIVE_ORDER"), (0, u "Ljava/util/Comparator;"), (181, u "valueOf"), (0, u "(C)Ljava/lang/String;"), (226, u "([C)V"), (4, .methodref 107 1016), (0, .nameAndType 1017 369), (0, u "canEncode"), (0, .methodref 107 1019), (0, .nameAndType 53 1020), (0, u "(C)[B"), (80, u "serialPersistentFields"), (0, u "[Ljava/io/ObjectStreamField;"), (0, .class_ 1104), (0, u "java/lang/String$CaseInsensitiveComparator"), (1, .class_ 1107), (0, u "java/io/Serializable"), (0, .class_ 1109), (0, u "java/lang/Comparable"), (0, .class_ 1111), (0, u "java/lang/constant/Constable"), (0, .class_ 1113), (0, u "java/lang/constant/ConstantDesc"), (2, u "serialVersionUID"), (0, u "J"), (3, u "REPL"), (0, u "C"), (2, u "LATIN1"), (1, u "UTF16")] 323

def k7m0 : Method := { name := "<init>", desc := "()V", sig := { parameters := [], returnType := none }, accessFlags := 1, code := none }
def k7c1 : Code := { maxStack := 5, maxLocals := 2, code := jdk_42_method_3_code, exceptionTable := #[], attributes := #[] }
def k7m1 : Method := { name := "<init>", desc := "([C)V", sig := { parameters := [(.array .char)], returnType := none }, accessFlags := 1, code := some k7c1 }
def k7c2 : Code := { maxStack := 2, maxLocals := 3, code := jdk_42_method_66_code, exceptionTable := #[], attributes := #[] }
def k7m2 : Method := { name := "equals", desc := "(Ljava/lang/Object;)Z", sig := { parameters := [(.object "java/lang/Object")], returnType := some .boolean }, accessFlags := 1, code := some k7c2 }
def k7c3 : Code := { maxStack := 4, maxLocals := 1, code := jdk_42_method_139_code, exceptionTable := #[], attributes := #[] }
def k7m3 : Method := { name := "valueOf", desc := "(C)Ljava/lang/String;", sig := { parameters := [.char], returnType := some (.object "java/lang/String") }, accessFlags := 9, code := some k7c3 }
def k7c4 : Code := { maxStack := 4, maxLocals := 6, code := jdk_42_method_149_code, exceptionTable := #[], attributes := #[] }
def k7m4 : Method := { name := "<init>", desc := "([CIILjava/lang/Void;)V", sig := { parameters := [(.array .char), .int, .int, (.object "java/lang/Void")], returnType := none }, accessFlags := 2, code := some k7c4 }
def k7c5 : Code := { maxStack := 2, maxLocals := 3, code := jdk_42_method_151_code, exceptionTable := #[], attributes := #[] }
def k7m5 : Method := { name := "<init>", desc := "([BB)V", sig := { parameters := [(.array .byte), .byte], returnType := none }, accessFlags := 0, code := some k7c5 }
/-- java/lang/String -/
def k7 : Class := { plain "java/lang/String" (some 0) with
  accessFlags := 49
  interfaces := #[2, 3, 4, 5, 6]
  cf := some (fileOf pool7 10 #[.nestMembers #[1103]] #[{ accessFlags := 1, nameIndex := 5, descriptorIndex := 6, attributes := #[] }, { accessFlags := 1, nameIndex := 5, descriptorIndex := 1010, attributes := #[] }, { accessFlags := 1, nameIndex := 543, descriptorIndex := 573, attributes := #[] }, { accessFlags := 9, nameIndex := 782, descriptorIndex := 783, attributes := #[] }, { accessFlags := 2, nameIndex := 5, descriptorIndex := 29, attributes := #[] }, { accessFlags := 0, nameIndex := 5, descriptorIndex := 211, attributes := #[] }] 49 2 #[1106, 1108, 575, 1110, 1112] #[{ accessFlags := 18, nameIndex := 13, descriptorIndex := 14, attributes := #[] }, { accessFlags := 18, nameIndex := 17, descriptorIndex := 18, attributes := #[] }, { accessFlags := 2, nameIndex := 21, descriptorIndex := 22, attributes := #[] }, { accessFlags := 2, nameIndex := 25, descriptorIndex := 26, attributes := #[] }, { accessFlags := 26, nameIndex := 1116, descriptorIndex := 1117, attributes := #[] }, { accessFlags := 24, nameIndex := 40, descriptorIndex := 26, attributes := #[] }, { accessFlags := 26, nameIndex := 1101, descriptorIndex := 1102, attributes := #[] }, { accessFlags := 26, nameIndex := 1121, descriptorIndex := 1122, attributes := #[] }, { accessFlags := 25, nameIndex := 599, descriptorIndex := 600, attributes := #[] }, { accessFlags := 24, nameIndex := 1125, descriptorIndex := 18, attributes := #[] }, { accessFlags := 24, nameIndex := 1127, descriptorIndex := 18, attributes := #[] }])
  fields := #[{ name := "value", type := (.array .byte), accessFlags := 18, slot := 0, constantValue := 0 }, { name := "coder", type := .byte, accessFlags := 18, slot := 1, constantValue := 0 }, { name := "hash", type := .int, accessFlags := 2, slot := 2, constantValue := 0 }, { name := "hashIsZero", type := .boolean, accessFlags := 2, slot := 3, constantValue := 0 }, { name := "serialVersionUID", type := .long, accessFlags := 26, slot := 0, constantValue := 0 }, { name := "COMPACT_STRINGS", type := .boolean, accessFlags := 24, slot := 1, constantValue := 0 }, { name := "serialPersistentFields", type := (.array (.object "java/io/ObjectStreamField")), accessFlags := 26, slot := 2, constantValue := 0 }, { name := "REPL", type := .char, accessFlags := 26, slot := 3, constantValue := 0 }, { name := "CASE_INSENSITIVE_ORDER", type := (.object "java/util/Comparator"), accessFlags := 25, slot := 4, constantValue := 0 }, { name := "LATIN1", type := .byte, accessFlags := 24, slot := 5, constantValue := 0 }, { name := "UTF16", type := .byte, accessFlags := 24, slot := 6, constantValue := 0 }]
  methods := #[k7m0, k7m1, k7m2, k7m3, k7m4, k7m5]
  instanceTypes := #[(.array .byte), .byte, .int, .boolean]
  staticTypes := #[.long, .boolean, (.array (.object "java/io/ObjectStreamField")), .char, (.object "java/util/Comparator"), .byte, .byte]
  resolved := Array.replicate 1451 none
  statics := some 0 }

def pool8 : Array CpInfo := pool [(6, .class_ 8), (1, u "java/lang/Object"), (0, u "<init>"), (0, u "()V"), (1, .class_ 14), (1, u "java/lang/StringUTF16"), (31, u "$assertionsDisabled"), (0, u "Z"), (13, u "HI_BYTE_SHIFT"), (0, u "I"), (2, u "LO_BYTE_SHIFT"), (49, .methodref 12 116), (0, .nameAndType 117 118), (0, u "compress"), (0, u "([CI[BII)I"), (3, u "([CII)[B"), (138, u "coderFromArrayLen"), (0, u "([BI)B"), (106, .class_ 371), (1, u "java/lang/StringUTF16$LinesSpliterator"), (58, u "MAX_LENGTH"), (196, .class_ 628), (0, u "java/lang/StringUTF16$CodePointsSpliterator"), (0, .class_ 630), (0, u "java/lang/StringUTF16$CharsSpliterator")] 4

def k8m0 : Method := { name := "<init>", desc := "()V", sig := { parameters := [], returnType := none }, accessFlags := 0, code := none }
def k8c1 : Code := { maxStack := 2, maxLocals := 2, code := jdk_52_method_15_code, exceptionTable := #[], attributes := #[] }
def k8m1 : Method := { name := "coderFromArrayLen", desc := "([BI)B", sig := { parameters := [(.array .byte), .int], returnType := some .byte }, accessFlags := 8, code := some k8c1 }
def k8c2 : Code := { maxStack := 5, maxLocals := 6, code := jdk_52_method_16_code, exceptionTable := #[], attributes := #[] }
def k8m2 : Method := { name := "compress", desc := "([CII)[B", sig := { parameters := [(.array .char), .int, .int], returnType := some (.array .byte) }, accessFlags := 9, code := some k8c2 }
def k8c3 : Code := { maxStack := 3, maxLocals := 7, code := jdk_52_method_21_code, exceptionTable := #[], attributes := #[] }
def k8m3 : Method := { name := "compress", desc := "([CI[BII)I", sig := { parameters := [(.array .char), .int, (.array .byte), .int, .int], returnType := some .int }, accessFlags := 9, code := some k8c3 }
/-- java/lang/StringUTF16 -/
def k8 : Class := { plain "java/lang/StringUTF16" (some 0) with
  accessFlags := 48
  interfaces := #[]
  cf := some (fileOf pool8 12 #[.nestMembers #[627, 629, 369]] #[{ accessFlags := 0, nameIndex := 9, descriptorIndex := 10, attributes := #[] }, { accessFlags := 8, nameIndex := 261, descriptorIndex := 262, attributes := #[] }, { accessFlags := 9, nameIndex := 117, descriptorIndex := 122, attributes := #[] }, { accessFlags := 9, nameIndex := 117, descriptorIndex := 118, attributes := #[] }] 48 6 #[] #[{ accessFlags := 26, nameIndex := 61, descriptorIndex := 62, attributes := #[] }, { accessFlags := 26, nameIndex := 65, descriptorIndex := 62, attributes := #[] }, { accessFlags := 24, nameIndex := 430, descriptorIndex := 62, attributes := #[] }, { accessFlags := 4120, nameIndex := 46, descriptorIndex := 47, attributes := #[] }])
  fields := #[{ name := "HI_BYTE_SHIFT", type := .int, accessFlags := 26, slot := 0, constantValue := 0 }, { name := "LO_BYTE_SHIFT", type := .int, accessFlags := 26, slot := 1, constantValue := 0 }, { name := "MAX_LENGTH", type := .int, accessFlags := 24, slot := 2, constantValue := 0 }, { name := "$assertionsDisabled", type := .boolean, accessFlags := 4120, slot := 3, constantValue := 0 }]
  methods := #[k8m0, k8m1, k8m2, k8m3]
  instanceTypes := #[]
  staticTypes := #[.int, .int, .int, .boolean]
  resolved := Array.replicate 635 none
  statics := none }

def pool9 : Array CpInfo := pool [(2, .class_ 4), (1, u "java/lang/Enum"), (0, u "name"), (0, u "Ljava/lang/String;"), (2, u "ordinal"), (0, u "I"), (1, .class_ 14), (1, u "java/lang/Object"), (4, u "hash"), (86, .class_ 108), (1, u "java/lang/Enum$EnumDesc"), (2, .class_ 112), (0, u "java/lang/constant/Constable"), (0, .class_ 114), (0, u "java/lang/Comparable"), (0, .class_ 116), (0, u "java/io/Serializable")] 87

/-- java/lang/Enum -/
def k9 : Class := { plain "java/lang/Enum" (some 0) with
  accessFlags := 1057
  interfaces := #[5, 3, 2]
  cf := some (fileOf pool9 2 #[.nestMembers #[106]] #[] 1057 12 #[111, 113, 115] #[{ accessFlags := 18, nameIndex := 5, descriptorIndex := 6, attributes := #[] }, { accessFlags := 18, nameIndex := 9, descriptorIndex := 10, attributes := #[] }, { accessFlags := 2, nameIndex := 19, descriptorIndex := 10, attributes := #[] }])
  fields := #[{ name := "name", type := (.object "java/lang/String"), accessFlags := 18, slot := 0, constantValue := 0 }, { name := "ordinal", type := .int, accessFlags := 18, slot := 1, constantValue := 0 }, { name := "hash", type := .int, accessFlags := 2, slot := 2, constantValue := 0 }]
  methods := #[]
  instanceTypes := #[(.object "java/lang/String"), .int, .int]
  staticTypes := #[]
  resolved := Array.replicate 204 none
  statics := none }

def pool10 : Array CpInfo := pool [(1, .class_ 2), (0, u "com/example/pigeonhole/pigeonhole/cli/Broker"), (2, u "RABBITMQ"), (0, u "Lcom/example/pigeonhole/pigeonhole/cli/Broker;"), (2, u "KAFKA"), (0, .fieldref 1 11), (0, .nameAndType 12 13), (0, u "$VALUES"), (0, u "[Lcom/example/pigeonhole/pigeonhole/cli/Broker;"), (0, .methodref 15 16), (0, .class_ 13), (0, .nameAndType 17 18), (0, u "clone"), (0, u "()Ljava/lang/Object;"), (1, .class_ 22), (1, u "java/lang/Enum"), (6, .fieldref 1 30), (0, .nameAndType 31 32), (0, u "settingValue"), (0, u "Ljava/lang/String;"), (2, u "addressKey"), (2, u "limits"), (0, u "Lcom/example/pigeonhole/pigeonhole/EventLimits;"), (0, .methodref 1 41), (0, .nameAndType 42 43), (0, u "values"), (0, u "()[Lcom/example/pigeonhole/pigeonhole/cli/Broker;"), (0, .methodref 45 46), (0, .class_ 47), (0, .nameAndType 48 49), (0, u "java/lang/String"), (0, u "equals"), (0, u "(Ljava/lang/Object;)Z"), (39, u "(Ljava/lang/String;)Lcom/example/pigeonhole/pigeonhole/cli/Broker;"), (4, u "named")] 7

def k10c0 : Code := { maxStack := 1, maxLocals := 0, code := prog_14_method_1_code, exceptionTable := #[], attributes := #[] }
def k10m0 : Method := { name := "values", desc := "()[Lcom/example/pigeonhole/pigeonhole/cli/Broker;", sig := { parameters := [], returnType := some (.array (.object "com/example/pigeonhole/pigeonhole/cli/Broker")) }, accessFlags := 9, code := some k10c0 }
def k10c1 : Code := { maxStack := 2, maxLocals := 5, code := prog_14_method_6_code, exceptionTable := #[], attributes := #[] }
def k10m1 : Method := { name := "named", desc := "(Ljava/lang/String;)Lcom/example/pigeonhole/pigeonhole/cli/Broker;", sig := { parameters := [(.object "java/lang/String")], returnType := some (.object "com/example/pigeonhole/pigeonhole/cli/Broker") }, accessFlags := 8, code := some k10c1 }
/-- com/example/pigeonhole/pigeonhole/cli/Broker -/
def k10 : Class := { plain "com/example/pigeonhole/pigeonhole/cli/Broker" (some 9) with
  accessFlags := 16432
  interfaces := #[]
  cf := some (fileOf pool10 1 #[] #[{ accessFlags := 9, nameIndex := 42, descriptorIndex := 43, attributes := #[] }, { accessFlags := 8, nameIndex := 94, descriptorIndex := 89, attributes := #[] }] 16432 20 #[] #[{ accessFlags := 16409, nameIndex := 5, descriptorIndex := 6, attributes := #[] }, { accessFlags := 16409, nameIndex := 9, descriptorIndex := 6, attributes := #[] }, { accessFlags := 18, nameIndex := 31, descriptorIndex := 32, attributes := #[] }, { accessFlags := 18, nameIndex := 35, descriptorIndex := 32, attributes := #[] }, { accessFlags := 18, nameIndex := 38, descriptorIndex := 39, attributes := #[] }, { accessFlags := 4122, nameIndex := 12, descriptorIndex := 13, attributes := #[] }])
  fields := #[{ name := "RABBITMQ", type := (.object "com/example/pigeonhole/pigeonhole/cli/Broker"), accessFlags := 16409, slot := 0, constantValue := 0 }, { name := "KAFKA", type := (.object "com/example/pigeonhole/pigeonhole/cli/Broker"), accessFlags := 16409, slot := 1, constantValue := 0 }, { name := "settingValue", type := (.object "java/lang/String"), accessFlags := 18, slot := 3, constantValue := 0 }, { name := "addressKey", type := (.object "java/lang/String"), accessFlags := 18, slot := 4, constantValue := 0 }, { name := "limits", type := (.object "com/example/pigeonhole/pigeonhole/EventLimits"), accessFlags := 18, slot := 5, constantValue := 0 }, { name := "$VALUES", type := (.array (.object "com/example/pigeonhole/pigeonhole/cli/Broker")), accessFlags := 4122, slot := 2, constantValue := 0 }]
  methods := #[k10m0, k10m1]
  instanceTypes := #[(.object "java/lang/String"), .int, .int, (.object "java/lang/String"), (.object "java/lang/String"), (.object "com/example/pigeonhole/pigeonhole/EventLimits")]
  staticTypes := #[(.object "com/example/pigeonhole/pigeonhole/cli/Broker"), (.object "com/example/pigeonhole/pigeonhole/cli/Broker"), (.array (.object "com/example/pigeonhole/pigeonhole/cli/Broker"))]
  resolved := Array.replicate 102 none
  statics := some 1 }

def pool11 : Array CpInfo := pool [(1, .class_ 2), (0, u "java/lang/Cloneable"), (0, .class_ 4), (0, u "java/lang/Object")] 2

/-- java/lang/Cloneable -/
def k11 : Class := { plain "java/lang/Cloneable" (some 0) with
  accessFlags := 1537
  interfaces := #[]
  cf := some (fileOf pool11 1 #[] #[] 1537 3 #[] #[])
  fields := #[]
  methods := #[]
  instanceTypes := #[]
  staticTypes := #[]
  resolved := Array.replicate 7 none
  statics := none }

def pool12 : Array CpInfo := pool [(4, .class_ 6), (1, u "java/lang/Object"), (0, u "<init>"), (0, u "()V"), (5, .class_ 16), (1, u "java/lang/StringLatin1"), (73, u "canEncode"), (14, u "(C)Z"), (15, u "$assertionsDisabled"), (0, u "Z"), (98, .class_ 223), (1, u "java/lang/StringLatin1$LinesSpliterator"), (57, u "equals"), (0, u "([B[B)Z"), (97, u "toBytes"), (1, u "(C)[B"), (7, .class_ 391), (0, u "java/lang/StringLatin1$CharsSpliterator")] 3

def k12m0 : Method := { name := "<init>", desc := "()V", sig := { parameters := [], returnType := none }, accessFlags := 0, code := none }
def k12c1 : Code := { maxStack := 2, maxLocals := 1, code := jdk_43_method_3_code, exceptionTable := #[], attributes := #[] }
def k12m1 : Method := { name := "canEncode", desc := "(C)Z", sig := { parameters := [.char], returnType := some .boolean }, accessFlags := 9, code := some k12c1 }
def k12c2 : Code := { maxStack := 3, maxLocals := 3, code := jdk_43_method_13_code, exceptionTable := #[], attributes := #[] }
def k12m2 : Method := { name := "equals", desc := "([B[B)Z", sig := { parameters := [(.array .byte), (.array .byte)], returnType := some .boolean }, accessFlags := 9, code := some k12c2 }
def k12c3 : Code := { maxStack := 4, maxLocals := 1, code := jdk_43_method_46_code, exceptionTable := #[], attributes := #[] }
def k12m3 : Method := { name := "toBytes", desc := "(C)[B", sig := { parameters := [.char], returnType := some (.array .byte) }, accessFlags := 9, code := some k12c3 }
/-- java/lang/StringLatin1 -/
def k12 : Class := { plain "java/lang/StringLatin1" (some 0) with
  accessFlags := 48
  interfaces := #[]
  cf := some (fileOf pool12 14 #[.nestMembers #[390, 221]] #[{ accessFlags := 0, nameIndex := 7, descriptorIndex := 8, attributes := #[] }, { accessFlags := 9, nameIndex := 90, descriptorIndex := 105, attributes := #[] }, { accessFlags := 9, nameIndex := 281, descriptorIndex := 282, attributes := #[] }, { accessFlags := 9, nameIndex := 380, descriptorIndex := 382, attributes := #[] }] 48 4 #[] #[{ accessFlags := 4120, nameIndex := 121, descriptorIndex := 122, attributes := #[] }])
  fields := #[{ name := "$assertionsDisabled", type := .boolean, accessFlags := 4120, slot := 0, constantValue := 0 }]
  methods := #[k12m0, k12m1, k12m2, k12m3]
  instanceTypes := #[]
  staticTypes := #[.boolean]
  resolved := Array.replicate 395 none
  statics := none }

def pool13 : Array CpInfo := pool [(2, .class_ 4), (1, u "java/lang/Object"), (0, u "<init>"), (0, u "()V"), (17, .class_ 26), (1, u "jdk/internal/util/Preconditions"), (28, .class_ 56), (0, u "jdk/internal/util/Preconditions$4"), (57, .class_ 115), (0, u "jdk/internal/util/Preconditions$1"), (7, u "SIOOBE_FORMATTER"), (0, u "Ljava/util/function/BiFunction;"), (0, .class_ 126), (0, u "jdk/internal/util/Preconditions$2"), (3, u "AIOOBE_FORMATTER"), (0, .class_ 132), (0, u "jdk/internal/util/Preconditions$3"), (3, u "IOOBE_FORMATTER")] 57

def k13m0 : Method := { name := "<init>", desc := "()V", sig := { parameters := [], returnType := none }, accessFlags := 1, code := none }
/-- jdk/internal/util/Preconditions -/
def k13 : Class := { plain "jdk/internal/util/Preconditions" (some 0) with
  accessFlags := 33
  interfaces := #[]
  cf := some (fileOf pool13 24 #[.nestMembers #[55, 131, 125, 114]] #[{ accessFlags := 1, nameIndex := 5, descriptorIndex := 6, attributes := #[] }] 33 2 #[] #[{ accessFlags := 25, nameIndex := 123, descriptorIndex := 124, attributes := #[] }, { accessFlags := 25, nameIndex := 130, descriptorIndex := 124, attributes := #[] }, { accessFlags := 25, nameIndex := 136, descriptorIndex := 124, attributes := #[] }])
  fields := #[{ name := "SIOOBE_FORMATTER", type := (.object "java/util/function/BiFunction"), accessFlags := 25, slot := 0, constantValue := 0 }, { name := "AIOOBE_FORMATTER", type := (.object "java/util/function/BiFunction"), accessFlags := 25, slot := 1, constantValue := 0 }, { name := "IOOBE_FORMATTER", type := (.object "java/util/function/BiFunction"), accessFlags := 25, slot := 2, constantValue := 0 }]
  methods := #[k13m0]
  instanceTypes := #[]
  staticTypes := #[(.object "java/util/function/BiFunction"), (.object "java/util/function/BiFunction"), (.object "java/util/function/BiFunction")]
  resolved := Array.replicate 194 none
  statics := some 2 }

def pool14 : Array CpInfo := pool [(9, u "<init>"), (6, .class_ 18), (1, u "java/lang/Object"), (0, u "()V"), (1, .class_ 23), (1, u "jdk/internal/util/ArraysSupport"), (0, u "LOG2_ARRAY_LONG_INDEX_SCALE"), (0, u "I"), (2, u "U"), (0, u "Ljdk/internal/misc/Unsafe;"), (8, u "BIG_ENDIAN"), (0, u "Z"), (8, u "LOG2_BYTE_BIT_SIZE"), (4, u "LOG2_ARRAY_INT_INDEX_SCALE"), (54, u "JLA"), (0, u "Ljdk/internal/access/JavaLangAccess;"), (11, u "LOG2_ARRAY_BOOLEAN_INDEX_SCALE"), (9, u "LOG2_ARRAY_BYTE_INDEX_SCALE"), (5, u "LOG2_ARRAY_CHAR_INDEX_SCALE"), (5, u "LOG2_ARRAY_SHORT_INDEX_SCALE"), (18, u "LOG2_ARRAY_FLOAT_INDEX_SCALE"), (24, u "LOG2_ARRAY_DOUBLE_INDEX_SCALE"), (89, u "T_BOOLEAN"), (2, u "T_CHAR"), (1, u "T_FLOAT"), (1, u "T_DOUBLE"), (1, u "T_BYTE"), (1, u "T_SHORT"), (1, u "T_INT"), (1, u "T_LONG"), (1, u "SOFT_MAX_ARRAY_LENGTH")] 83

def k14m0 : Method := { name := "<init>", desc := "()V", sig := { parameters := [], returnType := none }, accessFlags := 2, code := none }
/-- jdk/internal/util/ArraysSupport -/
def k14 : Class := { plain "jdk/internal/util/ArraysSupport" (some 0) with
  accessFlags := 33
  interfaces := #[]
  cf := some (fileOf pool14 21 #[] #[{ accessFlags := 2, nameIndex := 9, descriptorIndex := 19, attributes := #[] }] 33 16 #[] #[{ accessFlags := 24, nameIndex := 28, descriptorIndex := 29, attributes := #[] }, { accessFlags := 26, nameIndex := 38, descriptorIndex := 39, attributes := #[] }, { accessFlags := 25, nameIndex := 121, descriptorIndex := 25, attributes := #[] }, { accessFlags := 25, nameIndex := 131, descriptorIndex := 25, attributes := #[] }, { accessFlags := 25, nameIndex := 137, descriptorIndex := 25, attributes := #[] }, { accessFlags := 25, nameIndex := 143, descriptorIndex := 25, attributes := #[] }, { accessFlags := 25, nameIndex := 53, descriptorIndex := 25, attributes := #[] }, { accessFlags := 25, nameIndex := 24, descriptorIndex := 25, attributes := #[] }, { accessFlags := 25, nameIndex := 162, descriptorIndex := 25, attributes := #[] }, { accessFlags := 25, nameIndex := 187, descriptorIndex := 25, attributes := #[] }, { accessFlags := 26, nameIndex := 48, descriptorIndex := 25, attributes := #[] }, { accessFlags := 25, nameIndex := 277, descriptorIndex := 25, attributes := #[] }, { accessFlags := 25, nameIndex := 280, descriptorIndex := 25, attributes := #[] }, { accessFlags := 25, nameIndex := 282, descriptorIndex := 25, attributes := #[] }, { accessFlags := 25, nameIndex := 284, descriptorIndex := 25, attributes := #[] }, { accessFlags := 25, nameIndex := 286, descriptorIndex := 25, attributes := #[] }, { accessFlags := 25, nameIndex := 288, descriptorIndex := 25, attributes := #[] }, { accessFlags := 25, nameIndex := 290, descriptorIndex := 25, attributes := #[] }, { accessFlags := 25, nameIndex := 292, descriptorIndex := 25, attributes := #[] }, { accessFlags := 26, nameIndex := 108, descriptorIndex := 109, attributes := #[] }, { accessFlags := 25, nameIndex := 294, descriptorIndex := 25, attributes := #[] }])
  fields := #[{ name := "U", type := (.object "jdk/internal/misc/Unsafe"), accessFlags := 24, slot := 0, constantValue := 0 }, { name := "BIG_ENDIAN", type := .boolean, accessFlags := 26, slot := 1, constantValue := 0 }, { name := "LOG2_ARRAY_BOOLEAN_INDEX_SCALE", type := .int, accessFlags := 25, slot := 2, constantValue := 0 }, { name := "LOG2_ARRAY_BYTE_INDEX_SCALE", type := .int, accessFlags := 25, slot := 3, constantValue := 0 }, { name := "LOG2_ARRAY_CHAR_INDEX_SCALE", type := .int, accessFlags := 25, slot := 4, constantValue := 0 }, { name := "LOG2_ARRAY_SHORT_INDEX_SCALE", type := .int, accessFlags := 25, slot := 5, constantValue := 0 }, { name := "LOG2_ARRAY_INT_INDEX_SCALE", type := .int, accessFlags := 25, slot := 6, constantValue := 0 }, { name := "LOG2_ARRAY_LONG_INDEX_SCALE", type := .int, accessFlags := 25, slot := 7, constantValue := 0 }, { name := "LOG2_ARRAY_FLOAT_INDEX_SCALE", type := .int, accessFlags := 25, slot := 8, constantValue := 0 }, { name := "LOG2_ARRAY_DOUBLE_INDEX_SCALE", type := .int, accessFlags := 25, slot := 9, constantValue := 0 }, { name := "LOG2_BYTE_BIT_SIZE", type := .int, accessFlags := 26, slot := 10, constantValue := 0 }, { name := "T_BOOLEAN", type := .int, accessFlags := 25, slot := 11, constantValue := 0 }, { name := "T_CHAR", type := .int, accessFlags := 25, slot := 12, constantValue := 0 }, { name := "T_FLOAT", type := .int, accessFlags := 25, slot := 13, constantValue := 0 }, { name := "T_DOUBLE", type := .int, accessFlags := 25, slot := 14, constantValue := 0 }, { name := "T_BYTE", type := .int, accessFlags := 25, slot := 15, constantValue := 0 }, { name := "T_SHORT", type := .int, accessFlags := 25, slot := 16, constantValue := 0 }, { name := "T_INT", type := .int, accessFlags := 25, slot := 17, constantValue := 0 }, { name := "T_LONG", type := .int, accessFlags := 25, slot := 18, constantValue := 0 }, { name := "JLA", type := (.object "jdk/internal/access/JavaLangAccess"), accessFlags := 26, slot := 19, constantValue := 0 }, { name := "SOFT_MAX_ARRAY_LENGTH", type := .int, accessFlags := 25, slot := 20, constantValue := 0 }]
  methods := #[k14m0]
  instanceTypes := #[]
  staticTypes := #[(.object "jdk/internal/misc/Unsafe"), .boolean, .int, .int, .int, .int, .int, .int, .int, .int, .int, .int, .int, .int, .int, .int, .int, .int, .int, (.object "jdk/internal/access/JavaLangAccess"), .int]
  resolved := Array.replicate 378 none
  statics := none }

/-- the primitive byte -/
def k15 : Class := { plain "byte" none with kind := .primitive 'B', accessFlags := 0x411 }
/-- [B -/
def k16 : Class := { plain "[B" (some 0) with kind := .array 15 .byte, interfaces := #[11, 2], accessFlags := 1041 }

/-- the primitive char -/
def k17 : Class := { plain "char" none with kind := .primitive 'C', accessFlags := 0x411 }
/-- [C -/
def k18 : Class := { plain "[C" (some 0) with kind := .array 17 .char, interfaces := #[11, 2], accessFlags := 1041 }

/-- the primitive int -/
def k19 : Class := { plain "int" none with kind := .primitive 'I', accessFlags := 0x411 }
/-- [I -/
def k20 : Class := { plain "[I" (some 0) with kind := .array 19 .int, interfaces := #[11, 2], accessFlags := 1041 }

/-- [Lcom/example/pigeonhole/pigeonhole/cli/Broker; -/
def k21 : Class := { plain "[Lcom/example/pigeonhole/pigeonhole/cli/Broker;" (some 0) with kind := .array 10 (.object "com/example/pigeonhole/pigeonhole/cli/Broker"), interfaces := #[11, 2], accessFlags := 1041 }

def heap : Heap := #[{ cls := 7, slots := #[.long 0, .int 1, .null, .int 0, .null, .int 0, .int 0], vm := .statics 7 },
  { cls := 10, slots := #[.ref 4, .ref 5, .ref 3], vm := .statics 10 },
  { cls := 13, slots := #[.null, .null, .null], vm := .statics 13 },
  { cls := 21, slots := #[.ref 4, .ref 5], vm := .none },
  { cls := 10, slots := #[.null, .int 0, .int 0, .ref 6, .null, .null], vm := .none },
  { cls := 10, slots := #[.null, .int 1, .int 0, .ref 7, .null, .null], vm := .none },
  { cls := 7, slots := #[.ref 8, .int 0, .int 0, .int 0], vm := .none },
  { cls := 7, slots := #[.ref 9, .int 0, .int 0, .int 0], vm := .none },
  { cls := 16, slots := #[.int 114, .int 97, .int 98, .int 98, .int 105, .int 116, .int 109, .int 113], vm := .none },
  { cls := 16, slots := #[.int 107, .int 97, .int 102, .int 107, .int 97], vm := .none }]
def classes : Array Class := #[k0, k1, k2, k3, k4, k5, k6, k7, k8, k9, k10, k11, k12, k13, k14, k15, k16, k17, k18, k19, k20, k21]
def interned : List (Array UInt16 × Addr) := []
def slotsUsed : Nat := 48
def theMethod : MethodId := ⟨1, 1⟩
def args0 : Array Value := #[.int 5, .long 5, .int 5, .int 5, .int 5]
def aboutOver (below : List Frame) : State where
  vm := { classes := classes, interned := interned.toArray }
  heap := heap
  slotsUsed := slotsUsed
  threads := #[{ frames := .invoking theMethod args0 :: below }]
def below0 : List Frame := [.native { method := ⟨0, 0⟩, args := #[] }]
def about1 : State := aboutOver below0
def p0 : Program := .bare "" "" ""
def e0 : Env := launch0.env 0 0 0
theorem w_frames : about1.frames = Frame.invoking theMethod args0 :: below0 := rfl
set_option maxRecDepth 65536 in
theorem w_args : argsFit about1.vm theMethod args0 = true := by decide +kernel
set_option maxRecDepth 65536 in
theorem w_heap : heapFits about1 = true := by decide +kernel
set_option maxRecDepth 65536 in
theorem w_runnable : about1.curStatus? = some .runnable := by decide +kernel
set_option maxRecDepth 65536 in
theorem w_alone : about1.alone = true := by decide +kernel
set_option maxRecDepth 65536 in
theorem w_named : about1.methodNamed? x = some theMethod := by decide +kernel
set_option maxRecDepth 65536 in
theorem w_hears : about1.hears theMethod below0 = true := by decide +kernel
set_option maxRecDepth 65536 in
theorem w_ripe : about1.ripe theMethod args0 below0 = true := by decide +kernel
theorem w_running : about1.status = .running := rfl
set_option maxRecDepth 65536 in
theorem w_room : about1.hasRoom e0.platform room_1 = true :=
  launch0.hasRoom_least _ room_1 (by decide +kernel) (by decide +kernel) (by decide +kernel) (by decide +kernel) (by decide +kernel) (by decide +kernel)
theorem allAtoms_all (ts : List Jvm.Cond) (a : Array Jvm.Value) (st : Jvm.State) : (allAtoms ts).before a st = ts.all (fun c => c.before a st) := by
  induction ts with
  | nil => rfl
  | cons c t ih =>
    show (Jvm.Cond.and c (allAtoms t)).before a st = _
    rw [Jvm.Cond.before_and, ih, List.all_cons]
def words1 : List Jvm.Cond := Jvm.Cond.code x code maxLocals ret :: tables_1
/-- a 'code' word, met by the world's own term for the bytes: nothing is compared byte by byte -/
theorem code_word {y : MethodName} {bytes : ByteArray} {mx : Nat} {rt : Option FieldType} {a : Array Value} {s : State} {m : MethodId} {meth : Method} {c : Code} (h1 : s.methodNamed? y = some m) (h2 : s.vm.method? m = some meth) (h3 : meth.code = some c) (h4 : c.code = bytes)
    (h5 : (c.maxLocals == mx && c.exceptionTable.isEmpty && decide (c.maxStack ≤ mostOperands) && decide (meth.sig.returnType = rt) && !meth.locks && decide (parseMethodDescriptor y.desc = some meth.sig)) = true) : (Jvm.Cond.code y bytes mx rt).before a s = true := by
  simp only [Bool.and_eq_true, beq_iff_eq, Bool.not_eq_true', decide_eq_true_eq] at h5
  obtain ⟨⟨⟨⟨⟨g1, g2⟩, g3⟩, g4⟩, g5⟩, g6⟩ := h5
  simp [Cond.before, Cond.holds, Cond.value, h1, h2, h3, h4, g1, g2, g3, g4, g5, g6]
def isCode : Jvm.Cond → Bool
  | .code _ _ _ _ => true
  | _ => false
theorem all_split {L : List Jvm.Cond} {P : Jvm.Cond → Bool} (h1 : L.all (fun c => isCode c || P c) = true) (h2 : ∀ c ∈ L.filter isCode, P c = true) : L.all P = true := by
  refine List.all_eq_true.mpr fun c hc => ?_
  have h := List.all_eq_true.mp h1 c hc
  rcases Bool.eq_false_or_eq_true (isCode c) with hi | hi
  · exact h2 c (List.mem_filter.mpr ⟨hc, hi⟩)
  · simpa [hi] using h
set_option maxRecDepth 65536 in
theorem w_c0 : (Jvm.Cond.code x code maxLocals ret).before args0 about1 = true := code_word (m := ⟨1, 1⟩) (meth := k1m1) (c := k1c1) (by decide +kernel) rfl rfl rfl (by decide +kernel)
set_option maxRecDepth 65536 in
theorem w_c1 : (Jvm.Cond.code ({ cls := "com/example/pigeonhole/pigeonhole/cli/BrokerNamedPinLaw", name := "cut", desc := "([CI)Ljava/lang/String;" } : Jvm.MethodName) method_3_code (2 : Nat) (Option.some (Jvm.ClassFile.FieldType.object "java/lang/String"))).before args0 about1 = true := code_word (m := ⟨1, 2⟩) (meth := k1m2) (c := k1c2) (by decide +kernel) rfl rfl rfl (by decide +kernel)
set_option maxRecDepth 65536 in
theorem w_c2 : (Jvm.Cond.code ({ cls := "java/lang/String", name := "<init>", desc := "([C)V" } : Jvm.MethodName) jdk_42_method_3_code (2 : Nat) (Option.none : Option Jvm.ClassFile.FieldType)).before args0 about1 = true := code_word (m := ⟨7, 1⟩) (meth := k7m1) (c := k7c1) (by decide +kernel) rfl rfl rfl (by decide +kernel)
set_option maxRecDepth 65536 in
theorem w_c3 : (Jvm.Cond.code ({ cls := "java/lang/String", name := "<init>", desc := "([CIILjava/lang/Void;)V" } : Jvm.MethodName) jdk_42_method_149_code (6 : Nat) (Option.none : Option Jvm.ClassFile.FieldType)).before args0 about1 = true := code_word (m := ⟨7, 4⟩) (meth := k7m4) (c := k7c4) (by decide +kernel) rfl rfl rfl (by decide +kernel)
set_option maxRecDepth 65536 in
theorem w_c4 : (Jvm.Cond.code ({ cls := "java/lang/Object", name := "<init>", desc := "()V" } : Jvm.MethodName) object_method_1_code (1 : Nat) (Option.none : Option Jvm.ClassFile.FieldType)).before args0 about1 = true := code_word (m := ⟨0, 0⟩) (meth := k0m0) (c := k0c0) (by decide +kernel) rfl rfl rfl (by decide +kernel)
set_option maxRecDepth 65536 in
theorem w_c5 : (Jvm.Cond.code ({ cls := "java/lang/StringUTF16", name := "compress", desc := "([CII)[B" } : Jvm.MethodName) jdk_52_method_16_code (6 : Nat) (Option.some (Jvm.ClassFile.FieldType.array Jvm.ClassFile.FieldType.byte))).before args0 about1 = true := code_word (m := ⟨8, 2⟩) (meth := k8m2) (c := k8c2) (by decide +kernel) rfl rfl rfl (by decide +kernel)
set_option maxRecDepth 65536 in
theorem w_c6 : (Jvm.Cond.code ({ cls := "java/lang/StringUTF16", name := "compress", desc := "([CI[BII)I" } : Jvm.MethodName) jdk_52_method_21_code (7 : Nat) (Option.some Jvm.ClassFile.FieldType.int)).before args0 about1 = true := code_word (m := ⟨8, 3⟩) (meth := k8m3) (c := k8c3) (by decide +kernel) rfl rfl rfl (by decide +kernel)
set_option maxRecDepth 65536 in
theorem w_c7 : (Jvm.Cond.code ({ cls := "java/lang/StringUTF16", name := "coderFromArrayLen", desc := "([BI)B" } : Jvm.MethodName) jdk_52_method_15_code (2 : Nat) (Option.some Jvm.ClassFile.FieldType.byte)).before args0 about1 = true := code_word (m := ⟨8, 1⟩) (meth := k8m1) (c := k8c1) (by decide +kernel) rfl rfl rfl (by decide +kernel)
set_option maxRecDepth 65536 in
theorem w_c8 : (Jvm.Cond.code ({ cls := "com/example/pigeonhole/pigeonhole/cli/Broker", name := "named", desc := "(Ljava/lang/String;)Lcom/example/pigeonhole/pigeonhole/cli/Broker;" } : Jvm.MethodName) prog_14_method_6_code (5 : Nat) (Option.some (Jvm.ClassFile.FieldType.object "com/example/pigeonhole/pigeonhole/cli/Broker"))).before args0 about1 = true := code_word (m := ⟨10, 1⟩) (meth := k10m1) (c := k10c1) (by decide +kernel) rfl rfl rfl (by decide +kernel)
set_option maxRecDepth 65536 in
theorem w_c9 : (Jvm.Cond.code ({ cls := "com/example/pigeonhole/pigeonhole/cli/Broker", name := "values", desc := "()[Lcom/example/pigeonhole/pigeonhole/cli/Broker;" } : Jvm.MethodName) prog_14_method_1_code (0 : Nat) (Option.some (Jvm.ClassFile.FieldType.array (Jvm.ClassFile.FieldType.object "com/example/pigeonhole/pigeonhole/cli/Broker")))).before args0 about1 = true := code_word (m := ⟨10, 0⟩) (meth := k10m0) (c := k10c0) (by decide +kernel) rfl rfl rfl (by decide +kernel)
set_option maxRecDepth 65536 in
theorem w_c10 : (Jvm.Cond.code ({ cls := "java/lang/String", name := "equals", desc := "(Ljava/lang/Object;)Z" } : Jvm.MethodName) jdk_42_method_66_code (3 : Nat) (Option.some Jvm.ClassFile.FieldType.boolean)).before args0 about1 = true := code_word (m := ⟨7, 2⟩) (meth := k7m2) (c := k7c2) (by decide +kernel) rfl rfl rfl (by decide +kernel)
set_option maxRecDepth 65536 in
theorem w_c11 : (Jvm.Cond.code ({ cls := "java/lang/StringLatin1", name := "equals", desc := "([B[B)Z" } : Jvm.MethodName) jdk_43_method_13_code (3 : Nat) (Option.some Jvm.ClassFile.FieldType.boolean)).before args0 about1 = true := code_word (m := ⟨12, 2⟩) (meth := k12m2) (c := k12c2) (by decide +kernel) rfl rfl rfl (by decide +kernel)
set_option maxRecDepth 65536 in
theorem w_c12 : (Jvm.Cond.code ({ cls := "java/lang/String", name := "valueOf", desc := "(C)Ljava/lang/String;" } : Jvm.MethodName) jdk_42_method_139_code (1 : Nat) (Option.some (Jvm.ClassFile.FieldType.object "java/lang/String"))).before args0 about1 = true := code_word (m := ⟨7, 3⟩) (meth := k7m3) (c := k7c3) (by decide +kernel) rfl rfl rfl (by decide +kernel)
set_option maxRecDepth 65536 in
theorem w_c13 : (Jvm.Cond.code ({ cls := "java/lang/StringLatin1", name := "canEncode", desc := "(C)Z" } : Jvm.MethodName) jdk_43_method_3_code (1 : Nat) (Option.some Jvm.ClassFile.FieldType.boolean)).before args0 about1 = true := code_word (m := ⟨12, 1⟩) (meth := k12m1) (c := k12c1) (by decide +kernel) rfl rfl rfl (by decide +kernel)
set_option maxRecDepth 65536 in
theorem w_c14 : (Jvm.Cond.code ({ cls := "java/lang/StringLatin1", name := "toBytes", desc := "(C)[B" } : Jvm.MethodName) jdk_43_method_46_code (1 : Nat) (Option.some (Jvm.ClassFile.FieldType.array Jvm.ClassFile.FieldType.byte))).before args0 about1 = true := code_word (m := ⟨12, 3⟩) (meth := k12m3) (c := k12c3) (by decide +kernel) rfl rfl rfl (by decide +kernel)
set_option maxRecDepth 65536 in
theorem w_c15 : (Jvm.Cond.code ({ cls := "java/lang/String", name := "<init>", desc := "([BB)V" } : Jvm.MethodName) jdk_42_method_151_code (3 : Nat) (Option.none : Option Jvm.ClassFile.FieldType)).before args0 about1 = true := code_word (m := ⟨7, 5⟩) (meth := k7m5) (c := k7c5) (by decide +kernel) rfl rfl rfl (by decide +kernel)
def codes1 : List Jvm.Cond := [Jvm.Cond.code x code maxLocals ret, Jvm.Cond.code ({ cls := "com/example/pigeonhole/pigeonhole/cli/BrokerNamedPinLaw", name := "cut", desc := "([CI)Ljava/lang/String;" } : Jvm.MethodName) method_3_code (2 : Nat) (Option.some (Jvm.ClassFile.FieldType.object "java/lang/String")), Jvm.Cond.code ({ cls := "java/lang/String", name := "<init>", desc := "([C)V" } : Jvm.MethodName) jdk_42_method_3_code (2 : Nat) (Option.none : Option Jvm.ClassFile.FieldType), Jvm.Cond.code ({ cls := "java/lang/String", name := "<init>", desc := "([CIILjava/lang/Void;)V" } : Jvm.MethodName) jdk_42_method_149_code (6 : Nat) (Option.none : Option Jvm.ClassFile.FieldType), Jvm.Cond.code ({ cls := "java/lang/Object", name := "<init>", desc := "()V" } : Jvm.MethodName) object_method_1_code (1 : Nat) (Option.none : Option Jvm.ClassFile.FieldType), Jvm.Cond.code ({ cls := "java/lang/StringUTF16", name := "compress", desc := "([CII)[B" } : Jvm.MethodName) jdk_52_method_16_code (6 : Nat) (Option.some (Jvm.ClassFile.FieldType.array Jvm.ClassFile.FieldType.byte)), Jvm.Cond.code ({ cls := "java/lang/StringUTF16", name := "compress", desc := "([CI[BII)I" } : Jvm.MethodName) jdk_52_method_21_code (7 : Nat) (Option.some Jvm.ClassFile.FieldType.int), Jvm.Cond.code ({ cls := "java/lang/StringUTF16", name := "coderFromArrayLen", desc := "([BI)B" } : Jvm.MethodName) jdk_52_method_15_code (2 : Nat) (Option.some Jvm.ClassFile.FieldType.byte), Jvm.Cond.code ({ cls := "com/example/pigeonhole/pigeonhole/cli/Broker", name := "named", desc := "(Ljava/lang/String;)Lcom/example/pigeonhole/pigeonhole/cli/Broker;" } : Jvm.MethodName) prog_14_method_6_code (5 : Nat) (Option.some (Jvm.ClassFile.FieldType.object "com/example/pigeonhole/pigeonhole/cli/Broker")), Jvm.Cond.code ({ cls := "com/example/pigeonhole/pigeonhole/cli/Broker", name := "values", desc := "()[Lcom/example/pigeonhole/pigeonhole/cli/Broker;" } : Jvm.MethodName) prog_14_method_1_code (0 : Nat) (Option.some (Jvm.ClassFile.FieldType.array (Jvm.ClassFile.FieldType.object "com/example/pigeonhole/pigeonhole/cli/Broker"))), Jvm.Cond.code ({ cls := "java/lang/String", name := "equals", desc := "(Ljava/lang/Object;)Z" } : Jvm.MethodName) jdk_42_method_66_code (3 : Nat) (Option.some Jvm.ClassFile.FieldType.boolean), Jvm.Cond.code ({ cls := "java/lang/StringLatin1", name := "equals", desc := "([B[B)Z" } : Jvm.MethodName) jdk_43_method_13_code (3 : Nat) (Option.some Jvm.ClassFile.FieldType.boolean), Jvm.Cond.code ({ cls := "java/lang/String", name := "valueOf", desc := "(C)Ljava/lang/String;" } : Jvm.MethodName) jdk_42_method_139_code (1 : Nat) (Option.some (Jvm.ClassFile.FieldType.object "java/lang/String")), Jvm.Cond.code ({ cls := "java/lang/StringLatin1", name := "canEncode", desc := "(C)Z" } : Jvm.MethodName) jdk_43_method_3_code (1 : Nat) (Option.some Jvm.ClassFile.FieldType.boolean), Jvm.Cond.code ({ cls := "java/lang/StringLatin1", name := "toBytes", desc := "(C)[B" } : Jvm.MethodName) jdk_43_method_46_code (1 : Nat) (Option.some (Jvm.ClassFile.FieldType.array Jvm.ClassFile.FieldType.byte)), Jvm.Cond.code ({ cls := "java/lang/String", name := "<init>", desc := "([BB)V" } : Jvm.MethodName) jdk_42_method_151_code (3 : Nat) (Option.none : Option Jvm.ClassFile.FieldType)]
set_option maxRecDepth 65536 in
theorem codes_eq : words1.filter isCode = codes1 := rfl
theorem w_codes : ∀ c ∈ words1.filter isCode, c.before args0 about1 = true := by
  rw [codes_eq]
  intro c hc
  simp only [codes1, List.mem_cons, List.not_mem_nil, or_false] at hc
  rcases hc with rfl | rfl | rfl | rfl | rfl | rfl | rfl | rfl | rfl | rfl | rfl | rfl | rfl | rfl | rfl | rfl
  · exact w_c0
  · exact w_c1
  · exact w_c2
  · exact w_c3
  · exact w_c4
  · exact w_c5
  · exact w_c6
  · exact w_c7
  · exact w_c8
  · exact w_c9
  · exact w_c10
  · exact w_c11
  · exact w_c12
  · exact w_c13
  · exact w_c14
  · exact w_c15
set_option maxRecDepth 65536 in
theorem w_t1 : (words1.take 24).all (fun c => isCode c || c.before args0 about1) = true := by decide +kernel
set_option maxRecDepth 65536 in
theorem w_t2 : ((words1.drop 24).take 24).all (fun c => isCode c || c.before args0 about1) = true := by decide +kernel
set_option maxRecDepth 65536 in
theorem w_t3 : (((words1.drop 24).drop 24).take 24).all (fun c => isCode c || c.before args0 about1) = true := by decide +kernel
set_option maxRecDepth 65536 in
theorem w_t4 : (((words1.drop 24).drop 24).drop 24).all (fun c => isCode c || c.before args0 about1) = true := by decide +kernel
theorem w_tables : (allAtoms (Jvm.Cond.code x code maxLocals ret :: tables_1)).before args0 about1 = true := by
  rw [allAtoms_all]
  show words1.all (fun c => c.before args0 about1) = true
  refine all_split ?_ w_codes
  rw [← List.take_append_drop 24 words1, List.all_append, w_t1, ← List.take_append_drop 24 (words1.drop 24), List.all_append, w_t2, ← List.take_append_drop 24 ((words1.drop 24).drop 24), List.all_append, w_t3, w_t4]
  rfl
set_option maxRecDepth 65536 in
theorem w_rest : rest_1_c.before args0 about1 = true := by decide +kernel
set_option maxRecDepth 65536 in
theorem w_case : (Jvm.Cond.and given_1 narrow_1).before args0 about1 = true := by decide +kernel
set_option maxRecDepth 65536 in
theorem w_consts : constsHeld consts_1 about1 := Jvm.Lit.constsHeldB_iff.mp (by decide +kernel)
theorem w_applies : (headSpec (Jvm.Cond.code x code maxLocals ret :: tables_1) room_1).applies x e0.platform about1 = true :=
  (Spec.applies_iff w_frames).mpr ⟨w_running, w_runnable, w_alone, w_named, w_hears, w_ripe, w_room, w_tables⟩
theorem atStart : AtStart classFile x code maxLocals ret World_1 tables_1 room_1 Calls_1 rest_1 Pre_1 launch0 p0 e0 about1 theMethod args0 below0 :=
  ⟨lists_1, trivial, launch0.admits_env _ _ _, launch0.least_env, fairChoices_fair.cas, fairChoices_fair.clock, w_frames, w_args, w_heap, w_applies, ⟨w_consts, trivial⟩, w_rest, w_case⟩
end start1
theorem witness_1 : WitnessClaimed_1 := ⟨start1.p0, start1.e0, start1.about1, start1.theMethod, start1.args0, start1.below0, start1.atStart⟩
end Jvm.Pilot.@@N@@
