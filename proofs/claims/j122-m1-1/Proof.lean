import JvmDerived
import JvmDerived.Pilot.@@N@@Statement
import JvmDerived.Pilot.@@N@@Code
set_option linter.unusedVariables false
set_option linter.unusedSimpArgs false
namespace Jvm.Pilot.@@N@@
open Jvm Jvm.ClassFile Sem Op Lib Bundle Jvm.Free Jvm.Stand Jvm.LawKit Jvm.RoadKit
/-! ## The walk's own layer: where a run stands (Hr), a method's contract (Ct), one lemma a step. -/
/-- the fixed part of one walk: program, launch, environment, start, method, arguments, frames below, method record, code, the state where the steps begin, the cells that it may write, narrow tables?, known frames? -/
abbrev Cx : Type := Program × Launch × Env × State × MethodId × Array Value × List Frame × Method × Code × State × List Addr × Bool × Bool
abbrev Cx.p (x : Cx) : Program := x.1
abbrev Cx.l (x : Cx) : Launch := x.2.1
abbrev Cx.e (x : Cx) : Env := x.2.2.1
abbrev Cx.s (x : Cx) : State := x.2.2.2.1
abbrev Cx.m (x : Cx) : MethodId := x.2.2.2.2.1
abbrev Cx.args (x : Cx) : Array Value := x.2.2.2.2.2.1
abbrev Cx.below (x : Cx) : List Frame := x.2.2.2.2.2.2.1
abbrev Cx.meth (x : Cx) : Method := x.2.2.2.2.2.2.2.1
abbrev Cx.c (x : Cx) : Code := x.2.2.2.2.2.2.2.2.1
abbrev Cx.B (x : Cx) : State := x.2.2.2.2.2.2.2.2.2.1
abbrev Cx.sf0 (x : Cx) : List Addr := x.2.2.2.2.2.2.2.2.2.2.1
abbrev Cx.nar (x : Cx) : Bool := x.2.2.2.2.2.2.2.2.2.2.2.1
abbrev Cx.kn (x : Cx) : Bool := x.2.2.2.2.2.2.2.2.2.2.2.2
/-- a body: its room, its method's name, bytes, number of locals, what it returns -/
abbrev Bx : Type := Room × MethodName × ByteArray × Nat × Option FieldType
abbrev Bx.R (b : Bx) : Room := b.1
abbrev Bx.y (b : Bx) : MethodName := b.2.1
abbrev Bx.bytes (b : Bx) : ByteArray := b.2.2.1
abbrev Bx.maxL (b : Bx) : Nat := b.2.2.2.1
abbrev Bx.ret (b : Bx) : Option FieldType := b.2.2.2.2
/-- what never moves in a walk -/
def Bs (x : Cx) (b : Bx) (Z : State) (EL : List (String × Nat)) : Prop :=
  (∃ a0, EW Z a0 EL) ∧ x.p.tables.exec = Jvm.exec ∧ x.c.code = b.bytes ∧ x.c.maxLocals = b.maxL ∧ x.meth.sig.returnType = b.ret ∧ x.meth.locks = false ∧ x.meth.name = b.y.name
/-- a cell that the walk may write: made since the walk's start (or handed in), made since the law's start, and no literal's -/
def Mine (x : Cx) (Z : State) (EL : List (String × Nat)) (vm : Vm) (h : Heap) (a : Addr) : Prop := (a ∈ x.sf0 ∨ x.s.heap.size ≤ a) ∧ Z.heap.size ≤ a ∧ a < h.size ∧ Safe Z EL vm h a
/-- what moves, but for the frame -/
def Hx (x : Cx) (b : Bx) (Z : State) (EL : List (String × Nat)) (K S : Nat) (h : Heap) (sf : List Addr) (T : State) (locs : List Loc) (cells slots : Nat) (vm0 : Vm) (k0 : Nat) : Prop :=
  Stand x.p x.l x.e b.R (x.s.setVm vm0) x.m x.args x.below x.meth x.c T locs cells slots ∧ cells ≤ K ∧ slots ≤ S ∧ T.heap = h ∧ Fr Z.heap.size locs ∧
    x.s.Since vm0 k0 ∧ k0 ≤ h.size ∧ Z.Warmed39 vm0 ∧ vm0.findClass b.y.cls = some x.m.cls ∧
    CHr Z EL x.s.vm x.s.heap vm0 h ∧ Keep x.s.heap h x.sf0 ∧ Ext Z.heap h ∧ (∀ a ∈ sf, Mine x Z EL vm0 h a) ∧
    (x.nar = true → x.s.WarmedH vm0) ∧ (x.kn = true → vm0.MethodsKnown ∧ vm0.FramesKnown x.below)
/-- **WHERE THE RUN STANDS**: it has come to the frame (pc, Ls, st), the heap is h; at most K cells and S slots have been made; sf: cells that it may write -/
def Hr (x : Cx) (b : Bx) (Z : State) (EL : List (String × Nat)) (K S : Nat) (h : Heap) (sf : List Addr) (pc : Nat) (Ls : Array Slot) (st : List Value) : Prop :=
  Bs x b Z EL ∧ ∃ (T : State) (locs : List Loc) (cells slots : Nat) (vm0 : Vm) (k0 : Nat), Hx x b Z EL K S h sf T locs cells slots vm0 k0 ∧
    ∀ target, Steps x.p.tables x.e x.below (T.setTop (mkF x.m pc Ls st)) target → Steps x.p.tables x.e x.below x.B target
/-- what an end says: it returned v; Q of it, of the heap and of a list of cells that are the caller's to write; only the cells of sf, and new ones, have been written -/
def Pst (Z : State) (EL : List (String × Nat)) (sf : List Addr) (nar : Bool) (rm : Room) (Q : Option Value → Heap → List Addr → Prop) (U : State) (o : Outcome) (U' : State) : Prop :=
  ∃ (v : Option Value) (L : List Loc) (sn : List Addr), o = .returned v ∧ Q v U'.heap sn ∧ Keep U.heap U'.heap sf ∧ (∀ a ∈ sn, (a ∈ sf ∨ U.heap.size ≤ a) ∧ Z.heap.size ≤ a ∧ a < U'.heap.size ∧ Safe Z EL U'.vm U'.heap a) ∧ Fr Z.heap.size L ∧
    CHr Z EL U.vm U.heap U'.vm U'.heap ∧ (nar = true → U.WarmedH U'.vm) ∧ ReturnedEndW U o U' L rm.cells rm.slots
/-- **A METHOD's CONTRACT** at the arguments as', from the heap h, the cells of sf being its to write -/
def Ct (l : Launch) (Z : State) (EL : List (String × Nat)) (y : MethodName) (bytes : ByteArray) (maxL : Nat) (ret : Option FieldType) (rm : Room) (as' : Array Value) (h : Heap) (sf : List Addr) (nar kn : Bool) (Q : Option Value → Heap → List Addr → Prop) : Prop :=
  ∀ ws : List Jvm.Cond, MetFree l y (head1 (Jvm.Cond.code y bytes maxL ret :: ws) rm) (fun a U => a = as' ∧ Z.Warmed39 U.vm ∧ U.heap = h ∧ CHv Z EL U.vm h ∧ Ext Z.heap h ∧ ∀ a ∈ sf, Z.heap.size ≤ a ∧ a < h.size ∧ Safe Z EL U.vm h a)
    (fun _ _ bl s _ => kn = true → s.vm.MethodsKnown ∧ s.vm.FramesKnown bl) (fun _ U o U' => Pst Z EL sf nar rm Q U o U')
def Ends (x : Cx) (b : Bx) (Z : State) (EL : List (String × Nat)) (Q : Option Value → Heap → List Addr → Prop) : Prop :=
  ∃ (s₂ : State) (o : Outcome), Steps x.p.tables x.e x.below x.B s₂ ∧ s₂.status = .running ∧ Ended s₂ x.below o ∧ Pst Z EL x.sf0 x.nar b.R Q x.s o s₂
section Layer
variable {x : Cx} {b : Bx} {Z : State} {EL : List (String × Nat)} {K S : Nat} {h h' : Heap} {sf : List Addr} {pc pc' : Nat} {Ls Ls' : Array Slot} {st st' : List Value} {a0 : Array Value}
theorem Ext.rfl' (h : Heap) : Ext h h := ⟨Nat.le_refl _, fun _ _ q => q⟩
theorem Ext.tr {h1 h2 h3 : Heap} (A : Ext h1 h2) (B : Ext h2 h3) : Ext h1 h3 := ⟨Nat.le_trans A.1 B.1, fun a c q => B.2 a c (A.2 a c q)⟩
theorem Ext.keep {h1 h2 : Heap} (A : Ext h1 h2) (ws : List Addr) : Keep h1 h2 ws := (Keep.refl _ _).ext A
theorem Ext.ofKeep {h1 h2 h3 : Heap} {ws : List Addr} (A : Ext h1 h2) (B : Keep h2 h3 ws) (q : ∀ a ∈ ws, h1.size ≤ a) : Ext h1 h3 := ⟨Nat.le_trans A.1 B.1, fun a c r => B.2.1 a c (A.2 a c r) fun z => absurd (Array.getElem?_eq_some_iff.mp r).1 (Nat.not_lt.mpr (q a z))⟩
/-- the entry: a contract out of a walk -/
theorem Ct.intro {l : Launch} {y : MethodName} {bytes : ByteArray} {maxL : Nat} {ret : Option FieldType} {rm : Room} {as' : Array Value} {nar kn : Bool} {Q : Option Value → Heap → List Addr → Prop} (hpl : plainFor y = true) (hEL : EW Z a0 EL)
    (hef : ∀ m : MethodId, entryFrame m as' maxL = mkF m 0 Ls [])
    (body : ∀ x : Cx, x.l = l → x.nar = nar → x.kn = kn → x.sf0 = sf → x.s.heap = h → Hr x (rm, y, bytes, maxL, ret) Z EL 0 0 h sf 0 Ls [] → Ends x (rm, y, bytes, maxL, ret) Z EL Q) :
    Ct l Z EL y bytes maxL ret rm as' h sf nar kn Q := by
  intro ws
  refine MetFree.of_bodySF hpl hisR ?_
  intro p e s m args below meth c s₁ Bd hml0 hP hK
  obtain ⟨rfl, hZ, hh, hC, hE, hs⟩ := hP
  have hown : s.vm.findClass y.cls = some m.cls := findClass_of_methodNamed Bd.named
  have hnm := (name_of_methodNamed Bd.named Bd.method).1
  have X0 := Stand.of_body Bd
  have e0 : s₁.heap = h := by rw [← hh, Bd.state]; rfl
  subst hh
  have hF := body (p, l, e, s, m, args, below, meth, c, s₁.setTop (entryFrame m args maxL), sf, nar, kn) rfl rfl rfl rfl rfl
    ⟨⟨⟨_, hEL⟩, Bd.exec, Bd.bytes, hml0, Bd.returns, Bd.notSynchronized, hnm⟩, s₁, [], 0, 0, s.vm, s.heap.size,
      ⟨X0, Nat.le_refl _, Nat.le_refl _, e0, Fr.nil _, (State.WarmedH.refl s).since _, Nat.le_refl _, hZ, hown, CHr.refl hC, Keep.refl _ _, hE, fun a ha => ⟨Or.inl ha, hs a ha⟩, fun _ => State.WarmedH.refl s, hK⟩,
      fun t k => castTop (hef m) k⟩
  exact hF
theorem Hr.base (H : Hr x b Z EL K S h sf pc Ls st) : Bs x b Z EL := H.1
theorem Hr.old (H : Hr x b Z EL K S h sf pc Ls st) : Ext Z.heap h := by obtain ⟨-, T, locs, cells, slots, vm0, k0, X, -⟩ := H; exact X.2.2.2.2.2.2.2.2.2.2.2.1
theorem Hr.kept (H : Hr x b Z EL K S h sf pc Ls st) : Keep x.s.heap h x.sf0 := by obtain ⟨-, T, locs, cells, slots, vm0, k0, X, -⟩ := H; exact X.2.2.2.2.2.2.2.2.2.2.1
theorem Hr.lt {a : Addr} (H : Hr x b Z EL K S h sf pc Ls st) (ha : a ∈ sf) : a < h.size := by obtain ⟨-, T, locs, cells, slots, vm0, k0, X, -⟩ := H; exact (X.2.2.2.2.2.2.2.2.2.2.2.2.1 a ha).2.2.1
theorem Hr.ge {a : Addr} (H : Hr x b Z EL K S h sf pc Ls st) (ha : a ∈ sf) : Z.heap.size ≤ a := by obtain ⟨-, T, locs, cells, slots, vm0, k0, X, -⟩ := H; exact (X.2.2.2.2.2.2.2.2.2.2.2.2.1 a ha).2.1
theorem Hr.since (H : Hr x b Z EL K S h sf pc Ls st) {a : Addr} (ha : a ∈ sf) : a ∈ x.sf0 ∨ x.s.heap.size ≤ a := by obtain ⟨-, T, locs, cells, slots, vm0, k0, X, -⟩ := H; exact (X.2.2.2.2.2.2.2.2.2.2.2.2.1 a ha).1
/-- fewer cells to write, more room said to be used -/
theorem Hr.weaken {K' S' : Nat} {sf' : List Addr} (H : Hr x b Z EL K S h sf pc Ls st) (hK : K ≤ K') (hS : S ≤ S') (hsf : ∀ a ∈ sf', a ∈ sf) : Hr x b Z EL K' S' h sf' pc Ls st := by
  obtain ⟨B, T, locs, cells, slots, vm0, k0, ⟨X, h1, h2, h3, h4, h5, h6, h7, h8, h9, h10, h11, h12, h13, h14⟩, k⟩ := H
  exact ⟨B, T, locs, cells, slots, vm0, k0, ⟨X, Nat.le_trans h1 hK, Nat.le_trans h2 hS, h3, h4, h5, h6, h7, h8, h9, h10, h11, fun a ha => h12 a (hsf a ha), h13, h14⟩, k⟩
/-- a step that moves the frame alone -/
theorem Hr.step (H : Hr x b Z EL K S h sf pc Ls st)
    (f : ∀ T : State, At T x.m x.c x.below → x.p.tables.exec = Jvm.exec → x.c.code = b.bytes → ∀ target, Steps x.p.tables x.e x.below (T.setTop (mkF x.m pc' Ls' st')) target → Steps x.p.tables x.e x.below (T.setTop (mkF x.m pc Ls st)) target) : Hr x b Z EL K S h sf pc' Ls' st' := by
  obtain ⟨B, T, locs, cells, slots, vm0, k0, X, k⟩ := H
  exact ⟨B, T, locs, cells, slots, vm0, k0, X, fun t q => k t (f T X.1.here B.2.1 B.2.2.1 t q)⟩
/-- a step of the library that moves the tables at the most -/
theorem Hr.same (H : Hr x b Z EL K S h sf pc Ls st)
    (f : ∀ (T : State) (locs : List Loc) (cells slots : Nat) (vm0 : Vm), Stand x.p x.l x.e b.R (x.s.setVm vm0) x.m x.args x.below x.meth x.c T locs cells slots → T.heap = h → Z.Warmed39 (x.s.setVm vm0).vm → (x.s.setVm vm0).vm.findClass b.y.cls = some x.m.cls → Bs x b Z EL →
      ∃ T', Stand x.p x.l x.e b.R (x.s.setVm vm0) x.m x.args x.below x.meth x.c T' locs cells slots ∧ T'.heap = h ∧ ∀ target, Steps x.p.tables x.e x.below (T'.setTop (mkF x.m pc' Ls' st')) target → Steps x.p.tables x.e x.below (T.setTop (mkF x.m pc Ls st)) target) : Hr x b Z EL K S h sf pc' Ls' st' := by
  obtain ⟨B, T, locs, cells, slots, vm0, k0, ⟨X, h1, h2, h3, h4, h5, h6, h7, h8, hr⟩, k⟩ := H
  obtain ⟨T', X', e', st1⟩ := f T locs cells slots vm0 X h3 h7 h8 B
  exact ⟨B, T', locs, cells, slots, vm0, k0, ⟨X', h1, h2, e', h4, h5, h6, h7, h8, hr⟩, fun t q => k t (st1 t q)⟩
/-- a step of the library that writes one slot of a cell that is the walk's -/
theorem Hr.write {a : Addr} {sl : Nat} {v : Value} (H : Hr x b Z EL K S h sf pc Ls st) (ha : a ∈ sf)
    (f : ∀ (T : State) (locs : List Loc) (cells slots : Nat) (vm0 : Vm), Stand x.p x.l x.e b.R (x.s.setVm vm0) x.m x.args x.below x.meth x.c T locs cells slots → T.heap = h → Z.Warmed39 (x.s.setVm vm0).vm → (x.s.setVm vm0).vm.findClass b.y.cls = some x.m.cls → Bs x b Z EL →
      ∃ T' h', Stand x.p x.l x.e b.R (x.s.setVm vm0) x.m x.args x.below x.meth x.c T' (locs ++ [⟨a, sl⟩]) cells slots ∧ T'.heap = h' ∧ Wr h h' a sl v ∧ ∀ target, Steps x.p.tables x.e x.below (T'.setTop (mkF x.m pc' Ls' st')) target → Steps x.p.tables x.e x.below (T.setTop (mkF x.m pc Ls st)) target) :
    ∃ h', Wr h h' a sl v ∧ Hr x b Z EL K S h' sf pc' Ls' st' := by
  obtain ⟨B, T, locs, cells, slots, vm0, k0, ⟨X, h1, h2, h3, h4, h5, h6, h7, h8, h9, h10, h11, h12, h13, h14⟩, k⟩ := H
  obtain ⟨T', h', X', e', W, st1⟩ := f T locs cells slots vm0 X h3 h7 h8 B
  have hm := h12 a ha
  have q1 := CHv.wrStep W hm.2.2.2 h9.1
  refine ⟨h', W, B, T', _, cells, slots, vm0, k0, ⟨X', h1, h2, e', Fr.snoc X' h4 hm.2.1, h5, by rw [W.size]; exact h6, h7, h8, h9.trans (CHr.wr W hm.2.2.2 h9.1), h10.wr W hm.1, Ext.ofKeep h11 (Keep.of_wr W) (allS hm.2.1 all0), fun y hy => ?_, h13, h14⟩, fun t q => k t (st1 t q)⟩
  obtain ⟨y1, y2, y3, y4⟩ := h12 y hy
  exact ⟨y1, y2, by rw [W.size]; exact y3, Safe.wr W hm.2.2.2 h9.1 y4⟩
/-- a step of the library that makes one cell -/
theorem Hr.alloc {n : Nat} {P : Heap → Prop} (H : Hr x b Z EL K S h sf pc Ls st) (hc : K + 1 ≤ b.R.cells) (hl : S + n ≤ b.R.slots) (hlt : ∀ h', P h' → h.size < h'.size)
    (f : ∀ (T : State) (locs : List Loc) (cells slots : Nat) (vm0 : Vm), Stand x.p x.l x.e b.R (x.s.setVm vm0) x.m x.args x.below x.meth x.c T locs cells slots → T.heap = h → Z.Warmed39 (x.s.setVm vm0).vm → (x.s.setVm vm0).vm.findClass b.y.cls = some x.m.cls → Bs x b Z EL → cells + 1 ≤ b.R.cells → slots + n ≤ b.R.slots →
      ∃ T' h', Stand x.p x.l x.e b.R (x.s.setVm vm0) x.m x.args x.below x.meth x.c T' locs (cells + 1) (slots + n) ∧ T'.heap = h' ∧ Ext h h' ∧ P h' ∧ ∀ target, Steps x.p.tables x.e x.below (T'.setTop (mkF x.m pc' Ls' st')) target → Steps x.p.tables x.e x.below (T.setTop (mkF x.m pc Ls st)) target) :
    ∃ h', Ext h h' ∧ P h' ∧ Hr x b Z EL (K + 1) (S + n) h' (h.size :: sf) pc' Ls' st' := by
  obtain ⟨B, T, locs, cells, slots, vm0, k0, ⟨X, h1, h2, h3, h4, h5, h6, h7, h8, h9, h10, h11, h12, h13, h14⟩, k⟩ := H
  obtain ⟨T', h', X', e', E, hp, st1⟩ := f T locs cells slots vm0 X h3 h7 h8 B (by omega) (by omega)
  refine ⟨h', E, hp, B, T', _, _, _, vm0, k0, ⟨X', by omega, by omega, e', h4, h5, Nat.le_trans h6 E.1, h7, h8, h9.trans (CHr.ext E h9.1), h10.ext E, Ext.tr h11 E, fun y hy => ?_, h13, h14⟩, fun t q => k t (st1 t q)⟩
  rcases List.mem_cons.mp hy with rfl | hy
  · exact ⟨Or.inr h10.1, h11.1, hlt h' hp, Safe.ext E h9.1 (Safe.new (Nat.le_refl _))⟩
  · obtain ⟨y1, y2, y3, y4⟩ := h12 y hy
    exact ⟨y1, y2, Nat.lt_of_lt_of_le y3 E.1, Safe.ext E h9.1 y4⟩
/-- the payer: a contract as the library's calls take it -/
theorem Ct.backS {l : Launch} {y : MethodName} {bytes : ByteArray} {maxL : Nat} {ret : Option FieldType} {rm : Room} {as' : Array Value} {nar kn : Bool} {Q : Option Value → Heap → List Addr → Prop} (C : Ct l Z EL y bytes maxL ret rm as' h sf nar kn Q)
    {p : Program} {e : Env} {R : Room} {below : List Frame} {s : State} {vm0 : Vm} {args a1 : Array Value} {len W : Nat} (hZ : Z.Warmed39 vm0) (wc : (Jvm.Cond.code y bytes maxL ret).before a0 Z = true) (wz : (Jvm.Cond.initialized y.cls).before a0 Z = true) (hf : rm.frames + 1 ≤ R.frames) (hl : W + (maxL + 11) + rm.locals ≤ R.locals)
    (hEL : EW Z a1 EL) (H : CHv Z EL vm0 h) (hE : Ext Z.heap h) (hsf : ∀ a ∈ sf, Z.heap.size ≤ a ∧ a < h.size ∧ Safe Z EL vm0 h a) (hkn : kn = true → vm0.MethodsKnown ∧ vm0.FramesKnown below) :
    BackS l R p e below (s.setVm vm0) args y len W (fun A a => a = as' ∧ A.U.heap = h ∧ A.cells + rm.cells ≤ R.cells ∧ A.slots + rm.slots ≤ R.slots)
      (fun A _ v B => ∃ (L : List Loc) (sn : List Addr), Q v B.U.heap sn ∧ Keep h B.U.heap sf ∧ (∀ a ∈ sn, (a ∈ sf ∨ h.size ≤ a) ∧ Z.heap.size ≤ a ∧ a < B.U.heap.size ∧ Safe Z EL B.U.vm B.U.heap a) ∧ Fr Z.heap.size L ∧ B.locs = A.locs ++ L ∧ B.cells = A.cells + rm.cells ∧ B.slots = A.slots + rm.slots ∧
        CHr Z EL vm0 h B.U.vm B.U.heap ∧ (nar = true → (s.setVm vm0).WarmedH B.U.vm)) :=
  BackS.of_freeWG (bytes := bytes) (maxL := maxL) (ret := ret)
    (E := fun _ first o t L k n => k = rm.cells ∧ n = rm.slots ∧ ∃ (v : Option Value) (sn : List Addr), o = .returned v ∧ Q v t.heap sn ∧ Keep first.heap t.heap sf ∧ (∀ a ∈ sn, (a ∈ sf ∨ first.heap.size ≤ a) ∧ Z.heap.size ≤ a ∧ a < t.heap.size ∧ Safe Z EL t.vm t.heap a) ∧ Fr Z.heap.size L ∧ CHr Z EL first.vm first.heap t.vm t.heap ∧ (nar = true → first.WarmedH t.vm)) (C []) hf hl
    (fun m meth c A a Y hp => have hU : Z.Warmed39 A.U.vm := wtrans (s := s.setVm vm0) hZ Y.warmed
      ⟨by show (Jvm.Cond.and _ .tt).before a A.U = true; rw [Cond.before_and, mv hU wc]; rfl, mv hU wc, mv hU wz, hp.2.2.1, hp.2.2.2⟩)
    (fun m meth c A a g mk Y hp => ⟨hp.1, wtrans (s := s.setVm vm0) hZ Y.warmed, hp.2.1, (CHv.at Y hZ hEL H).1, hE, fun z hz => ⟨(hsf z hz).1, (hsf z hz).2.1, (CHv.at Y hZ hEL H).safe (hsf z hz).2.1 (hsf z hz).2.2⟩⟩)
    (fun m meth c A a g mk Y _ hg hk => known_frames Y hg (hkn hk).1 (hkn hk).2)
    (fun _ _ _ _ ⟨v, L, sn, q1, q2, q3, q4, q5, q6, q7, q8⟩ => ⟨L, _, _, q8, rfl, rfl, v, sn, q1, q2, q3, q4, q5, q6, q7⟩)
    (fun m meth c A a g mk v t L k n Y hp _ _ ⟨e1, e2, v', sn, q1, q2, q3, q4, q5, q6, q7⟩ => by
      cases q1; subst e1 e2
      obtain ⟨-, rfl, -⟩ := hp
      exact ⟨L, sn, q2, q3, q4, q5, rfl, rfl, rfl, (CHv.at Y hZ hEL H).trans q6, fun hn => State.WarmedH.trans (t := A.U) Y.warmed (q7 hn)⟩)
/-- behind a call: from what the library hands out to where the run stands -/
theorem Hr.after {rm : Room} {sf' : List Addr} {Q : Option Value → Heap → List Addr → Prop} (B : Bs x b Z EL) {T : State} {locs : List Loc} {cells slots : Nat} {vm0 : Vm} {k0 : Nat} (X : Hx x b Z EL K S h sf T locs cells slots vm0 k0)
    (k : ∀ target, Steps x.p.tables x.e x.below (T.setTop (mkF x.m pc Ls st)) target → Steps x.p.tables x.e x.below x.B target) (sub : ∀ a ∈ sf', a ∈ sf)
    {P : Pt} (X' : Stand x.p x.l x.e b.R ((x.s.setVm vm0).setVm P.U.vm) x.m x.args x.below x.meth x.c P.U P.locs P.cells P.slots) (hS : (x.s.setVm vm0).Since P.U.vm P.U.heap.size) (hgr : T.heap.size ≤ P.U.heap.size) {v : Option Value}
    (hp : ∃ (L : List Loc) (sn : List Addr), Q v P.U.heap sn ∧ Keep h P.U.heap sf' ∧ (∀ a ∈ sn, (a ∈ sf' ∨ h.size ≤ a) ∧ Z.heap.size ≤ a ∧ a < P.U.heap.size ∧ Safe Z EL P.U.vm P.U.heap a) ∧ Fr Z.heap.size L ∧ P.locs = locs ++ L ∧ P.cells = cells + rm.cells ∧ P.slots = slots + rm.slots ∧
        CHr Z EL vm0 h P.U.vm P.U.heap ∧ (x.nar = true → (x.s.setVm vm0).WarmedH P.U.vm))
    (hst : Steps x.p.tables x.e x.below (T.setTop (mkF x.m pc Ls st)) (P.U.setTop (mkF x.m pc' Ls st'))) :
    ∃ (h' : Heap) (sn : List Addr), Q v h' sn ∧ Keep h h' sf' ∧ Hr x b Z EL (K + rm.cells) (S + rm.slots) h' (sn ++ sf) pc' Ls st' := by
  obtain ⟨X, h1, h2, h3, h4, h5, h6, h7, h8, h9, h10, h11, h12, h13, h14⟩ := X
  obtain ⟨L, sn, q1, q2, q3, q4, q5, q6, q7, q8, q9⟩ := hp
  have hsf0 : ∀ z ∈ sf', z ∈ x.sf0 ∨ x.s.heap.size ≤ z := fun z hz => (h12 z (sub z hz)).1
  refine ⟨_, sn, q1, q2, B, P.U, P.locs, P.cells, P.slots, P.U.vm, P.U.heap.size, ⟨X', by omega, by omega, rfl, by rw [q5]; exact h4.app q4, h5.trans hS (by rw [h3] at hgr; exact Nat.le_trans h6 hgr), Nat.le_refl _, State.Warmed39.trans (t := x.s.setVm vm0) h7 hS.1, (hS.1.alike.findClass _ _).trans h8, h9.trans q8, h10.trans q2 hsf0,
    Ext.ofKeep h11 q2 (fun z hz => (h12 z (sub z hz)).2.1), fun z hz => ?_, fun hn => State.WarmedH.trans (t := x.s.setVm vm0) (h13 hn) (q9 hn), fun hk => ⟨Vm.MethodsKnown.alikeC hS.1.alike (h14 hk).1, Vm.FramesKnown.alikeC hS.1.alike (h14 hk).2⟩⟩, fun t q => k t (hst.trans q)⟩
  rcases List.mem_append.mp hz with hz | hz
  · obtain ⟨z1, z2, z3, z4⟩ := q3 z hz
    refine ⟨z1.elim (hsf0 z) (fun q => Or.inr (Nat.le_trans h10.1 q)), z2, z3, z4⟩
  · obtain ⟨z1, z2, z3, z4⟩ := h12 z hz
    exact ⟨z1, z2, Nat.lt_of_lt_of_le z3 q2.1, q8.safe z3 z4⟩
end Layer
end Jvm.Pilot.@@N@@
namespace Jvm.Pilot.@@N@@
open Jvm Jvm.ClassFile Sem Op Lib Bundle Jvm.Free Jvm.Stand Jvm.LawKit Jvm.RoadKit
section Layer2
variable {x : Cx} {b : Bx} {Z : State} {EL : List (String × Nat)} {K S : Nat} {h h' : Heap} {sf : List Addr} {pc pc' : Nat} {Ls Ls' : Array Slot} {st st' : List Value} {a0 : Array Value}
/-! ### plain steps -/
theorem Hr.iloadN {k : Fin 4} {v : Int32} (H : Hr x b Z EL K S h sf pc Ls st) (hd : decode b.bytes pc = .ok (.iload_n k, 1)) (hl : Ls[k.val]? = some (.val (.int v)) := by rfl) (hpc : pc + 1 = pc' := by rfl) : Hr x b Z EL K S h sf pc' Ls (.int v :: st) := by
  subst hpc; exact H.step fun T A hx hby t q => XS.iloadN A hx rfl (hb hby hd) hl q
theorem Hr.iload {k : Nat} {v : Int32} (H : Hr x b Z EL K S h sf pc Ls st) (hd : decode b.bytes pc = .ok (.iload k, 2)) (hl : Ls[k]? = some (.val (.int v)) := by rfl) (hpc : pc + 2 = pc' := by rfl) : Hr x b Z EL K S h sf pc' Ls (.int v :: st) := by
  subst hpc; exact H.step fun T A hx hby t q => XS.iload A hx rfl (hb hby hd) hl q
theorem Hr.aloadN {k : Fin 4} {v : Value} (H : Hr x b Z EL K S h sf pc Ls st) (hd : decode b.bytes pc = .ok (.aload_n k, 1)) (hl : Ls[k.val]? = some (.val v) := by rfl) (hv : v.isRef = true := by rfl) (hpc : pc + 1 = pc' := by rfl) : Hr x b Z EL K S h sf pc' Ls (v :: st) := by
  subst hpc; exact H.step fun T A hx hby t q => XS.aloadN A hx rfl (hb hby hd) hl hv q
theorem Hr.aload {k : Nat} {v : Value} (H : Hr x b Z EL K S h sf pc Ls st) (hd : decode b.bytes pc = .ok (.aload k, 2)) (hl : Ls[k]? = some (.val v) := by rfl) (hv : v.isRef = true := by rfl) (hpc : pc + 2 = pc' := by rfl) : Hr x b Z EL K S h sf pc' Ls (v :: st) := by
  subst hpc; exact H.step fun T A hx hby t q => XS.aload A hx rfl (hb hby hd) hl hv q
theorem Hr.iconst {i : Int} {v : Int32} (H : Hr x b Z EL K S h sf pc Ls st) (hd : decode b.bytes pc = .ok (.iconst i, 1)) (hv : Int32.ofInt i = v := by first | rfl | decide) (hpc : pc + 1 = pc' := by rfl) : Hr x b Z EL K S h sf pc' Ls (.int v :: st) := by
  subst hpc hv; exact H.step fun T A hx hby t q => XS.iconst A hx rfl (hb hby hd) q
theorem Hr.bipush {i : Int} {v : Int32} (H : Hr x b Z EL K S h sf pc Ls st) (hd : decode b.bytes pc = .ok (.bipush i, 2)) (hv : (Int8.ofInt i).toInt32 = v := by first | rfl | decide) (hpc : pc + 2 = pc' := by rfl) : Hr x b Z EL K S h sf pc' Ls (.int v :: st) := by
  subst hpc hv; exact H.step fun T A hx hby t q => XS.bipush A hx rfl (hb hby hd) q
theorem Hr.sipush {i : Int} {v : Int32} (H : Hr x b Z EL K S h sf pc Ls st) (hd : decode b.bytes pc = .ok (.sipush i, 3)) (hv : (Int16.ofInt i).toInt32 = v := by first | rfl | decide) (hpc : pc + 3 = pc' := by rfl) : Hr x b Z EL K S h sf pc' Ls (.int v :: st) := by
  subst hpc hv; exact H.step fun T A hx hby t q => XS.sipush A hx rfl (hb hby hd) q
theorem Hr.aconstNull (H : Hr x b Z EL K S h sf pc Ls st) (hd : decode b.bytes pc = .ok (.aconst_null, 1)) (hpc : pc + 1 = pc' := by rfl) : Hr x b Z EL K S h sf pc' Ls (.null :: st) := by
  subst hpc; exact H.step fun T A hx hby t q => XS.aconstNull A hx rfl (hb hby hd) q
theorem Hr.iadd {u w v : Int32} (H : Hr x b Z EL K S h sf pc Ls (.int w :: .int u :: st)) (hd : decode b.bytes pc = .ok (.iadd, 1)) (hv : u + w = v := by rfl) (hpc : pc + 1 = pc' := by rfl) : Hr x b Z EL K S h sf pc' Ls (.int v :: st) := by
  subst hpc hv; exact H.step fun T A hx hby t q => XS.iadd A hx rfl (hb hby hd) rfl q
theorem Hr.isub {u w v : Int32} (H : Hr x b Z EL K S h sf pc Ls (.int w :: .int u :: st)) (hd : decode b.bytes pc = .ok (.isub, 1)) (hv : u - w = v := by rfl) (hpc : pc + 1 = pc' := by rfl) : Hr x b Z EL K S h sf pc' Ls (.int v :: st) := by
  subst hpc hv; exact H.step fun T A hx hby t q => XS.isub A hx rfl (hb hby hd) rfl q
theorem Hr.imul {u w v : Int32} (H : Hr x b Z EL K S h sf pc Ls (.int w :: .int u :: st)) (hd : decode b.bytes pc = .ok (.imul, 1)) (hv : u * w = v := by rfl) (hpc : pc + 1 = pc' := by rfl) : Hr x b Z EL K S h sf pc' Ls (.int v :: st) := by
  subst hpc hv; exact H.step fun T A hx hby t q => XS.imul A hx rfl (hb hby hd) rfl q
theorem Hr.iand {u w v : Int32} (H : Hr x b Z EL K S h sf pc Ls (.int w :: .int u :: st)) (hd : decode b.bytes pc = .ok (.iand, 1)) (hv : u &&& w = v := by rfl) (hpc : pc + 1 = pc' := by rfl) : Hr x b Z EL K S h sf pc' Ls (.int v :: st) := by
  subst hpc hv; exact H.step fun T A hx hby t q => XS.iand A hx rfl (hb hby hd) rfl q
theorem Hr.ior {u w v : Int32} (H : Hr x b Z EL K S h sf pc Ls (.int w :: .int u :: st)) (hd : decode b.bytes pc = .ok (.ior, 1)) (hv : u ||| w = v := by rfl) (hpc : pc + 1 = pc' := by rfl) : Hr x b Z EL K S h sf pc' Ls (.int v :: st) := by
  subst hpc hv; exact H.step fun T A hx hby t q => XT.ior A hx rfl (hb hby hd) rfl q
theorem Hr.ixor {u w v : Int32} (H : Hr x b Z EL K S h sf pc Ls (.int w :: .int u :: st)) (hd : decode b.bytes pc = .ok (.ixor, 1)) (hv : u ^^^ w = v := by rfl) (hpc : pc + 1 = pc' := by rfl) : Hr x b Z EL K S h sf pc' Ls (.int v :: st) := by
  subst hpc hv; exact H.step fun T A hx hby t q => XT.ixor A hx rfl (hb hby hd) rfl q
theorem Hr.ishl {u w v : Int32} (H : Hr x b Z EL K S h sf pc Ls (.int w :: .int u :: st)) (hd : decode b.bytes pc = .ok (.ishl, 1)) (hv : u <<< (w &&& 31) = v := by rfl) (hpc : pc + 1 = pc' := by rfl) : Hr x b Z EL K S h sf pc' Ls (.int v :: st) := by
  subst hpc hv; exact H.step fun T A hx hby t q => XT.ishl A hx rfl (hb hby hd) rfl q
theorem Hr.ishr {u w v : Int32} (H : Hr x b Z EL K S h sf pc Ls (.int w :: .int u :: st)) (hd : decode b.bytes pc = .ok (.ishr, 1)) (hv : u >>> (w &&& 31) = v := by rfl) (hpc : pc + 1 = pc' := by rfl) : Hr x b Z EL K S h sf pc' Ls (.int v :: st) := by
  subst hpc hv; exact H.step fun T A hx hby t q => XT.ishr A hx rfl (hb hby hd) rfl q
theorem Hr.iushr {u w v : Int32} (H : Hr x b Z EL K S h sf pc Ls (.int w :: .int u :: st)) (hd : decode b.bytes pc = .ok (.iushr, 1)) (hv : (u.toUInt32 >>> (w &&& 31).toUInt32).toInt32 = v := by rfl) (hpc : pc + 1 = pc' := by rfl) : Hr x b Z EL K S h sf pc' Ls (.int v :: st) := by
  subst hpc hv; exact H.step fun T A hx hby t q => XT.iushr A hx rfl (hb hby hd) rfl q
theorem Hr.ineg {u v : Int32} (H : Hr x b Z EL K S h sf pc Ls (.int u :: st)) (hd : decode b.bytes pc = .ok (.ineg, 1)) (hv : -u = v := by rfl) (hpc : pc + 1 = pc' := by rfl) : Hr x b Z EL K S h sf pc' Ls (.int v :: st) := by
  subst hpc hv; exact H.step fun T A hx hby t q => XS.ineg A hx rfl (hb hby hd) rfl q
theorem Hr.irem {u w v : Int32} (H : Hr x b Z EL K S h sf pc Ls (.int w :: .int u :: st)) (hd : decode b.bytes pc = .ok (.irem, 1)) (hw : w ≠ 0) (hv : u % w = v := by rfl) (hpc : pc + 1 = pc' := by rfl) : Hr x b Z EL K S h sf pc' Ls (.int v :: st) := by
  subst hpc hv; exact H.step fun T A hx hby t q => XS.irem A hx rfl (hb hby hd) rfl hw (by rw [irem_eq_mod]; exact q)
theorem Hr.idiv {u w v : Int32} (H : Hr x b Z EL K S h sf pc Ls (.int w :: .int u :: st)) (hd : decode b.bytes pc = .ok (.idiv, 1)) (hw : w ≠ 0) (hv : u / w = v := by rfl) (hpc : pc + 1 = pc' := by rfl) : Hr x b Z EL K S h sf pc' Ls (.int v :: st) := by
  subst hpc hv; exact H.step fun T A hx hby t q => XS.idiv A hx rfl (hb hby hd) rfl hw q
theorem Hr.i2c {u v : Int32} (H : Hr x b Z EL K S h sf pc Ls (.int u :: st)) (hd : decode b.bytes pc = .ok (.i2c, 1)) (hv : u.toUInt32.toUInt16.toUInt32.toInt32 = v := by rfl) (hpc : pc + 1 = pc' := by rfl) : Hr x b Z EL K S h sf pc' Ls (.int v :: st) := by
  subst hpc hv; exact H.step fun T A hx hby t q => XT.i2c A hx rfl (hb hby hd) rfl q
theorem Hr.i2b {u v : Int32} (H : Hr x b Z EL K S h sf pc Ls (.int u :: st)) (hd : decode b.bytes pc = .ok (.i2b, 1)) (hv : u.toInt8.toInt32 = v := by rfl) (hpc : pc + 1 = pc' := by rfl) : Hr x b Z EL K S h sf pc' Ls (.int v :: st) := by
  subst hpc hv; exact H.step fun T A hx hby t q => XT.i2b A hx rfl (hb hby hd) rfl q
theorem Hr.dup {v : Value} (H : Hr x b Z EL K S h sf pc Ls (v :: st)) (hd : decode b.bytes pc = .ok (.dup, 1)) (hc : v.category = 1 := by rfl) (hpc : pc + 1 = pc' := by rfl) : Hr x b Z EL K S h sf pc' Ls (v :: v :: st) := by
  subst hpc; exact H.step fun T A hx hby t q => XS.dup A hx rfl (hb hby hd) rfl hc q
theorem Hr.dupX1 {v w : Value} (H : Hr x b Z EL K S h sf pc Ls (v :: w :: st)) (hd : decode b.bytes pc = .ok (.dup_x1, 1)) (hc : v.category = 1 := by rfl) (hc' : w.category = 1 := by rfl) (hpc : pc + 1 = pc' := by rfl) : Hr x b Z EL K S h sf pc' Ls (v :: w :: v :: st) := by
  subst hpc; exact H.step fun T A hx hby t q => XT.dupX1 A hx rfl (hb hby hd) rfl hc hc' q
theorem Hr.pop {v : Value} (H : Hr x b Z EL K S h sf pc Ls (v :: st)) (hd : decode b.bytes pc = .ok (.pop, 1)) (hc : v.category = 1 := by rfl) (hpc : pc + 1 = pc' := by rfl) : Hr x b Z EL K S h sf pc' Ls st := by
  subst hpc; exact H.step fun T A hx hby t q => XT.pop A hx rfl (hb hby hd) rfl hc q
theorem Hr.istoreN {k : Fin 4} {v : Int32} (H : Hr x b Z EL K S h sf pc Ls (.int v :: st)) (hd : decode b.bytes pc = .ok (.istore_n k, 1)) (hl : storeLocals Ls k.val (.int v) = some Ls' := by rfl) (hpc : pc + 1 = pc' := by rfl) : Hr x b Z EL K S h sf pc' Ls' st := by
  subst hpc; exact H.step fun T A hx hby t q => XS.istoreN A hx rfl (hb hby hd) rfl hl q
theorem Hr.istore {k : Nat} {v : Int32} (H : Hr x b Z EL K S h sf pc Ls (.int v :: st)) (hd : decode b.bytes pc = .ok (.istore k, 2)) (hl : storeLocals Ls k (.int v) = some Ls' := by rfl) (hpc : pc + 2 = pc' := by rfl) : Hr x b Z EL K S h sf pc' Ls' st := by
  subst hpc; exact H.step fun T A hx hby t q => XS.istore A hx rfl (hb hby hd) rfl hl q
theorem Hr.astoreN {k : Fin 4} {v : Value} (H : Hr x b Z EL K S h sf pc Ls (v :: st)) (hd : decode b.bytes pc = .ok (.astore_n k, 1)) (hl : storeLocals Ls k.val v = some Ls' := by rfl) (hv : v.isRef = true := by rfl) (hpc : pc + 1 = pc' := by rfl) : Hr x b Z EL K S h sf pc' Ls' st := by
  subst hpc; exact H.step fun T A hx hby t q => XS.astoreN A hx rfl (hb hby hd) rfl hv hl q
theorem Hr.astore {k : Nat} {v : Value} (H : Hr x b Z EL K S h sf pc Ls (v :: st)) (hd : decode b.bytes pc = .ok (.astore k, 2)) (hl : storeLocals Ls k v = some Ls' := by rfl) (hv : v.isRef = true := by rfl) (hpc : pc + 2 = pc' := by rfl) : Hr x b Z EL K S h sf pc' Ls' st := by
  subst hpc; exact H.step fun T A hx hby t q => XS.astore A hx rfl (hb hby hd) rfl hv hl q
theorem Hr.iinc {k : Nat} {cst : Int} {u v : Int32} (H : Hr x b Z EL K S h sf pc Ls st) (hd : decode b.bytes pc = .ok (.iinc k cst, 3)) (hl : Ls[k]? = some (.val (.int u)) := by rfl) (hv : u + Int32.ofInt cst = v := by rfl) (hl' : storeLocals Ls k (.int v) = some Ls' := by rfl) (hpc : pc + 3 = pc' := by rfl) : Hr x b Z EL K S h sf pc' Ls' st := by
  subst hpc hv; exact H.step fun T A hx hby t q => XS.iinc A hx rfl (hb hby hd) hl hl' q
theorem Hr.goto {o : Int} (H : Hr x b Z EL K S h sf pc Ls st) (hd : decode b.bytes pc = .ok (.goto o, 3)) (hp : ((pc : Int) + o).toNat = pc' := by decide) (ho : 0 ≤ (pc : Int) + o := by decide) : Hr x b Z EL K S h sf pc' Ls st := by
  exact H.step fun T A hx hby t q => XS.goto A hx rfl (pc0 := pc) rfl (hb hby hd) ho hp q
theorem Hr.ifT {cd : ClassFile.Cond} {o : Int} {u : Int32} (H : Hr x b Z EL K S h sf pc Ls (.int u :: st)) (hd : decode b.bytes pc = .ok (.ifCond cd o, 3)) (hc : ifCond.holds cd u = true) (hp : ((pc : Int) + o).toNat = pc' := by decide) (ho : 0 ≤ (pc : Int) + o := by decide) : Hr x b Z EL K S h sf pc' Ls st := by
  exact H.step fun T A hx hby t q => XS.ifYes A hx rfl (pc0 := pc) rfl (hb hby hd) rfl hc ho hp q
theorem Hr.ifF {cd : ClassFile.Cond} {o : Int} {u : Int32} (H : Hr x b Z EL K S h sf pc Ls (.int u :: st)) (hd : decode b.bytes pc = .ok (.ifCond cd o, 3)) (hc : ifCond.holds cd u = false) (hpc : pc + 3 = pc' := by rfl) : Hr x b Z EL K S h sf pc' Ls st := by
  subst hpc; exact H.step fun T A hx hby t q => XS.ifNo A hx rfl (hb hby hd) rfl hc q
theorem Hr.icmpT {cd : ClassFile.Cond} {o : Int} {u w : Int32} (H : Hr x b Z EL K S h sf pc Ls (.int w :: .int u :: st)) (hd : decode b.bytes pc = .ok (.if_icmp cd o, 3)) (hc : if_icmp.holds cd u w = true) (hp : ((pc : Int) + o).toNat = pc' := by decide) (ho : 0 ≤ (pc : Int) + o := by decide) : Hr x b Z EL K S h sf pc' Ls st := by
  exact H.step fun T A hx hby t q => XS.icmpYes A hx rfl (pc0 := pc) rfl (hb hby hd) rfl hc ho hp q
theorem Hr.icmpF {cd : ClassFile.Cond} {o : Int} {u w : Int32} (H : Hr x b Z EL K S h sf pc Ls (.int w :: .int u :: st)) (hd : decode b.bytes pc = .ok (.if_icmp cd o, 3)) (hc : if_icmp.holds cd u w = false) (hpc : pc + 3 = pc' := by rfl) : Hr x b Z EL K S h sf pc' Ls st := by
  subst hpc; exact H.step fun T A hx hby t q => XS.icmpNo A hx rfl (hb hby hd) rfl hc q
theorem Hr.acmpT {cd : ClassFile.ACond} {o : Int} {u w : Value} (H : Hr x b Z EL K S h sf pc Ls (w :: u :: st)) (hd : decode b.bytes pc = .ok (.if_acmp cd o, 3)) (hc : XT.acmp cd u w = true) (hu : u.isRef = true := by rfl) (hw : w.isRef = true := by rfl) (hp : ((pc : Int) + o).toNat = pc' := by decide) (ho : 0 ≤ (pc : Int) + o := by decide) : Hr x b Z EL K S h sf pc' Ls st := by
  exact H.step fun T A hx hby t q => XT.acmpYes A hx rfl (pc0 := pc) rfl (hb hby hd) rfl hu hw hc ho hp q
theorem Hr.acmpF {cd : ClassFile.ACond} {o : Int} {u w : Value} (H : Hr x b Z EL K S h sf pc Ls (w :: u :: st)) (hd : decode b.bytes pc = .ok (.if_acmp cd o, 3)) (hc : XT.acmp cd u w = false) (hu : u.isRef = true := by rfl) (hw : w.isRef = true := by rfl) (hpc : pc + 3 = pc' := by rfl) : Hr x b Z EL K S h sf pc' Ls st := by
  subst hpc; exact H.step fun T A hx hby t q => XT.acmpNo A hx rfl (hb hby hd) rfl hu hw hc q
theorem Hr.ifnullT {o : Int} (H : Hr x b Z EL K S h sf pc Ls (.null :: st)) (hd : decode b.bytes pc = .ok (.ifnull o, 3)) (hp : ((pc : Int) + o).toNat = pc' := by decide) (ho : 0 ≤ (pc : Int) + o := by decide) : Hr x b Z EL K S h sf pc' Ls st := by
  exact H.step fun T A hx hby t q => XS.ifnullYes A hx rfl (pc0 := pc) rfl (hb hby hd) rfl ho hp q
theorem Hr.ifnullF {o : Int} {a : Addr} (H : Hr x b Z EL K S h sf pc Ls (.ref a :: st)) (hd : decode b.bytes pc = .ok (.ifnull o, 3)) (hpc : pc + 3 = pc' := by rfl) : Hr x b Z EL K S h sf pc' Ls st := by
  subst hpc; exact H.step fun T A hx hby t q => XS.ifnullNo A hx rfl (hb hby hd) rfl q
theorem Hr.ifnonnullT {o : Int} {a : Addr} (H : Hr x b Z EL K S h sf pc Ls (.ref a :: st)) (hd : decode b.bytes pc = .ok (.ifnonnull o, 3)) (hp : ((pc : Int) + o).toNat = pc' := by decide) (ho : 0 ≤ (pc : Int) + o := by decide) : Hr x b Z EL K S h sf pc' Ls st := by
  exact H.step fun T A hx hby t q => XT.ifnonnullYes A hx rfl (pc0 := pc) rfl (hb hby hd) rfl ho hp q
theorem Hr.ifnonnullF {o : Int} (H : Hr x b Z EL K S h sf pc Ls (.null :: st)) (hd : decode b.bytes pc = .ok (.ifnonnull o, 3)) (hpc : pc + 3 = pc' := by rfl) : Hr x b Z EL K S h sf pc' Ls st := by
  subst hpc; exact H.step fun T A hx hby t q => XT.ifnonnullNo A hx rfl (hb hby hd) rfl q
/-! ### longs -/
theorem Hr.lloadN {k : Fin 4} {v : Int64} (H : Hr x b Z EL K S h sf pc Ls st) (hd : decode b.bytes pc = .ok (.lload_n k, 1)) (hl : Ls[k.val]? = some (.val (.long v)) := by rfl) (hpc : pc + 1 = pc' := by rfl) : Hr x b Z EL K S h sf pc' Ls (.long v :: st) := by
  subst hpc; exact H.step fun T A hx hby t q => XT.lloadN A hx rfl (hb hby hd) hl q
theorem Hr.lushr {u : Int64} {w : Int32} {v : Int64} (H : Hr x b Z EL K S h sf pc Ls (.int w :: .long u :: st)) (hd : decode b.bytes pc = .ok (.lushr, 1)) (hv : XT.ushrL u w = v := by rfl) (hpc : pc + 1 = pc' := by rfl) : Hr x b Z EL K S h sf pc' Ls (.long v :: st) := by
  subst hpc hv; exact H.step fun T A hx hby t q => XT.lushr A hx rfl (hb hby hd) rfl q
theorem Hr.land {u w v : Int64} (H : Hr x b Z EL K S h sf pc Ls (.long w :: .long u :: st)) (hd : decode b.bytes pc = .ok (.land, 1)) (hv : u &&& w = v := by rfl) (hpc : pc + 1 = pc' := by rfl) : Hr x b Z EL K S h sf pc' Ls (.long v :: st) := by
  subst hpc hv; exact H.step fun T A hx hby t q => XT.land A hx rfl (hb hby hd) rfl q
theorem Hr.l2i {u : Int64} {v : Int32} (H : Hr x b Z EL K S h sf pc Ls (.long u :: st)) (hd : decode b.bytes pc = .ok (.l2i, 1)) (hv : u.toInt32 = v := by rfl) (hpc : pc + 1 = pc' := by rfl) : Hr x b Z EL K S h sf pc' Ls (.int v :: st) := by
  subst hpc hv; exact H.step fun T A hx hby t q => XT.l2i A hx rfl (hb hby hd) rfl q
/-! ### constants, fields, statics, casts -/
theorem Hr.ldcI {index : Nat} {v : Int32} (H : Hr x b Z EL K S h sf pc Ls st) (w : (Jvm.Cond.constant b.y.cls index v).before a0 Z = true) (hd : decode b.bytes pc = .ok (.ldc index, 2)) (hpc : pc + 2 = pc' := by rfl) : Hr x b Z EL K S h sf pc' Ls (.int v :: st) := by
  subst hpc
  exact H.same fun T locs cells slots vm0 X eT hZ hown B => ⟨T, X, eT, X.ldcInt B.2.1 hown (mvT hZ w) (g := mkF x.m pc Ls st) rfl (hb B.2.2.1 hd)⟩
theorem Hr.ldcL {index : Nat} {v : Int64} (H : Hr x b Z EL K S h sf pc Ls st) (w : (Jvm.Cond.constantLong b.y.cls index v).before a0 Z = true) (hd : decode b.bytes pc = .ok (.ldc2_w index, 3)) (hpc : pc + 3 = pc' := by rfl) : Hr x b Z EL K S h sf pc' Ls (.long v :: st) := by
  subst hpc
  exact H.same fun T locs cells slots vm0 X eT hZ hown B => ⟨T, X, eT, X.ldc2Long B.2.1 hown (mvT hZ w) (g := mkF x.m pc Ls st) rfl (hb B.2.2.1 hd)⟩
theorem Hr.getF {index : Nat} {O n d : String} {a : Addr} {v : Value} (H : Hr x b Z EL K S h sf pc Ls (.ref a :: st)) (w : (Jvm.Cond.fieldLink b.y.cls index O n d).before a0 Z = true) (F : Fld Z h a O n d v) (hd : decode b.bytes pc = .ok (.getfield index, 3)) (hpc : pc + 3 = pc' := by rfl) : Hr x b Z EL K S h sf pc' Ls (v :: st) := by
  subst hpc
  exact H.same fun T locs cells slots vm0 X eT hZ hown B => Jvm.RoadKit.getF X B.2.1 hZ hown (host := "") (Or.inl w) Via.refl eT F (g := mkF x.m pc Ls (.ref a :: st)) rfl rfl (hb B.2.2.1 hd)
theorem Hr.getFvia {index : Nat} {R0 O n d : String} {a : Addr} {v : Value} (H : Hr x b Z EL K S h sf pc Ls (.ref a :: st)) (w : (Jvm.Cond.fieldLink b.y.cls index R0 n d).before a0 Z = true) (via : Via Z R0 O n d) (F : Fld Z h a O n d v) (hd : decode b.bytes pc = .ok (.getfield index, 3)) (hpc : pc + 3 = pc' := by rfl) : Hr x b Z EL K S h sf pc' Ls (v :: st) := by
  subst hpc
  exact H.same fun T locs cells slots vm0 X eT hZ hown B => Jvm.RoadKit.getF X B.2.1 hZ hown (host := "") (Or.inl w) via eT F (g := mkF x.m pc Ls (.ref a :: st)) rfl rfl (hb B.2.2.1 hd)
theorem Hr.getS {index : Nat} {O n d : String} {v : Value} (H : Hr x b Z EL K S h sf pc Ls st) (w : (Jvm.Cond.fieldLink b.y.cls index O n d).before a0 Z = true) (F : Sta Z h O n d v) (hd : decode b.bytes pc = .ok (.getstatic index, 3)) (hpc : pc + 3 = pc' := by rfl) : Hr x b Z EL K S h sf pc' Ls (v :: st) := by
  subst hpc
  exact H.same fun T locs cells slots vm0 X eT hZ hown B => Jvm.RoadKit.getS (host := "") X B.2.1 hZ hown w Via.refl eT F (g := mkF x.m pc Ls st) rfl (hb B.2.2.1 hd)
theorem Hr.cast {index : Nat} {C : String} {a : Addr} (H : Hr x b Z EL K S h sf pc Ls (.ref a :: st)) (w : (Jvm.Cond.classLink b.y.cls index C).before a0 Z = true) (F : Ins Z h a C true) (hd : decode b.bytes pc = .ok (.checkcast index, 3)) (hpc : pc + 3 = pc' := by rfl) : Hr x b Z EL K S h sf pc' Ls (.ref a :: st) := by
  subst hpc
  exact H.same fun T locs cells slots vm0 X eT hZ hown B => castY X B.2.1 hZ hown w eT F (g := mkF x.m pc Ls (.ref a :: st)) rfl rfl (hb B.2.2.1 hd)
theorem Hr.inst {index : Nat} {C : String} {a : Addr} (H : Hr x b Z EL K S h sf pc Ls (.ref a :: st)) (w : (Jvm.Cond.classLink b.y.cls index C).before a0 Z = true) (F : Ins Z h a C true) (hd : decode b.bytes pc = .ok (.instanceof index, 3)) (hpc : pc + 3 = pc' := by rfl) : Hr x b Z EL K S h sf pc' Ls (.int 1 :: st) := by
  subst hpc
  exact H.same fun T locs cells slots vm0 X eT hZ hown B => instY X B.2.1 hZ hown w eT F (g := mkF x.m pc Ls (.ref a :: st)) rfl rfl (hb B.2.2.1 hd)
theorem Hr.initO {index : Nat} {a : Addr} (H : Hr x b Z EL K S h sf pc Ls (.ref a :: st)) (w1 : (Jvm.Cond.methodLink b.y.cls index Lib.objectInit).before a0 Z = true) (w2 : (Jvm.Cond.instanceMethod Lib.objectInit).before a0 Z = true) (w3 : (Jvm.Cond.code Lib.objectInit ⟨#[0xb1]⟩ 1 none).before a0 Z = true)
    (hd : decode b.bytes pc = .ok (.invokespecial index, 3)) (hLs : Ls.size = b.maxL := by rfl) (hf : 1 ≤ b.R.frames := by decide) {Wr : Nat} (hW : (st.map fun v => v.category).sum = Wr := by rfl) (hl : Wr + 12 ≤ b.R.locals := by decide) (hpc : pc + 3 = pc' := by rfl) : Hr x b Z EL K S h sf pc' Ls st := by
  subst hpc hW
  exact H.same fun T locs cells slots vm0 X eT hZ hown B => Jvm.RoadKit.initO X B.2.1 hZ hown w1 w2 w3 eT (g := mkF x.m pc Ls (.ref a :: st)) rfl (hLs.trans B.2.2.2.1.symm) rfl (hb B.2.2.1 hd) hf (W := (st.map fun v => v.category).sum) (by show 2 * 0 + _ ≤ _; omega) hl
theorem Hr.putF {index kk : Nat} {O n d C : String} {ty : FieldType} {a : Addr} {v old : Value} (H : Hr x b Z EL K S h sf pc Ls (v :: .ref a :: st)) (ha : a ∈ sf) (w : (Jvm.Cond.fieldLink b.y.cls index O n d).before a0 Z = true) (F : Fld Z h a O n d old) (E : Exa Z h a C)
    (L : (Jvm.Cond.lays C O n d).before a0 Z = true ∨ ((Jvm.Cond.laysFinal C O n d).before a0 Z = true ∧ b.y.cls = O ∧ b.y.name = "<init>")) (wi : (Jvm.Cond.instantiable C kk).before a0 Z = true) (hd : decode b.bytes pc = .ok (.putfield index, 3))
    (hty : parseFieldDescriptor d = some ty := by decide +kernel) (hn : narrow ty v = v := by rfl) (hf : fits ty v = true := by rfl) (hpc : pc + 3 = pc' := by rfl) :
    ∃ h', Wr h h' a (Jvm.RoadKit.slotOf Z O n d) v ∧ Hr x b Z EL K S h' sf pc' Ls st := by
  subst hpc
  exact H.write ha fun T locs cells slots vm0 X eT hZ hown B => Jvm.RoadKit.putF X B.2.1 hZ hown (host := "") (Or.inl w) Via.refl eT F E (L.imp id fun q => ⟨q.1, q.2.1, B.2.2.2.2.2.2.trans q.2.2⟩) wi hty hn hf (g := mkF x.m pc Ls (v :: .ref a :: st)) rfl rfl (hb B.2.2.1 hd)
theorem Hr.new {index n : Nat} {C : String} (H : Hr x b Z EL K S h sf pc Ls st) (w : (Jvm.Cond.classLink b.y.cls index C).before a0 Z = true) (wi : (Jvm.Cond.instantiable C n).before a0 Z = true) (wz : (Jvm.Cond.initialized C).before a0 Z = true) (hd : decode b.bytes pc = .ok (.new index, 3))
    (hc : K + 1 ≤ b.R.cells := by decide) (hl : S + n ≤ b.R.slots := by decide) (hpc : pc + 3 = pc' := by rfl) :
    ∃ h', Ext h h' ∧ (Exa Z h' h.size C ∧ (∀ {O nm d : String} {ty : FieldType}, Laid Z a0 C O nm d → parseFieldDescriptor d = some ty → Fld Z h' h.size O nm d (defaultValue ty)) ∧ Unt h' h.size) ∧ Hr x b Z EL (K + 1) (S + n) h' (h.size :: sf) pc' Ls (.ref h.size :: st) := by
  subst hpc
  refine H.alloc hc hl (P := fun h' => Exa Z h' h.size C ∧ (∀ {O nm d : String} {ty : FieldType}, Laid Z a0 C O nm d → parseFieldDescriptor d = some ty → Fld Z h' h.size O nm d (defaultValue ty)) ∧ Unt h' h.size) (fun h' q => q.1.lt) fun T locs cells slots vm0 X eT hZ hown B hc' hl' => ?_
  obtain ⟨T', h', X', e', E, A, D, U, st1⟩ := newO X B.2.1 hZ hown w wi wz eT (g := mkF x.m pc Ls st) rfl (hb B.2.2.1 hd) hc' hl'
  exact ⟨T', h', X', e', E, ⟨A, D, U⟩, st1⟩
/-! ### ends -/
theorem Hr.fin {Q : Option Value → Heap → List Addr → Prop} {v : Value} {t : FieldType} {i : Instr} {sn : List Addr} (H : Hr x b Z EL K S h sf pc Ls (v :: st)) (hd : decode b.bytes pc = .ok (i, 1)) (hret : b.ret = some t) (hn : narrow t v = v)
    (hi : (i = .ireturn ∧ (t = .int ∨ t = .boolean ∨ t = .byte ∨ t = .char ∨ t = .short) ∧ ∃ z, v = .int z) ∨ (i = .lreturn ∧ t = .long ∧ ∃ z, v = .long z) ∨ (i = .dreturn ∧ t = .double ∧ ∃ z, v = .double z) ∨ (i = .freturn ∧ t = .float ∧ ∃ z, v = .float z) ∨ (i = .areturn ∧ t.isReference = true ∧ v.isRef = true))
    (hK : K ≤ b.R.cells) (hS : S ≤ b.R.slots) (hsn : ∀ a ∈ sn, a ∈ sf) (q : Q (some v) h sn) : Ends x b Z EL Q := by
  obtain ⟨B, T, locs, cells, slots, vm0, k0, ⟨X, h1, h2, h3, h4, h5, h6, h7, h8, h9, h10, h11, h12, h13, h14⟩, k⟩ := H
  have A := CHv.at X h7 B.1.choose_spec h9.1
  obtain ⟨fs, hr, hrun, hended, hW⟩ := (X.mono (Nat.le_trans h1 hK) (Nat.le_trans h2 hS)).leaveW h5 (by rw [h3]; exact h6) (v := some v) (fun z => by rw [B.2.2.2.2.1, hret] at z; cases z) B.2.2.2.2.2.1
  refine ⟨_, _, k _ (retOut X B.2.1 (t := t) (by rw [B.2.2.2.2.1]; exact hret) hn hi (hb B.2.2.1 hd) hr), hrun, hended, some v, locs, sn, rfl, ?_, ?_, fun z hz => ?_, h4, ?_, fun hn => State.WarmedH.trans (t := x.s.setVm vm0) (h13 hn) X.warmed, hW⟩
  · show Q (some v) T.heap sn; rw [h3]; exact q
  · show Keep x.s.heap T.heap x.sf0; rw [h3]; exact h10
  · obtain ⟨z1, z2, z3, z4⟩ := h12 z (hsn z hz)
    refine ⟨z1, z2, ?_, ?_⟩
    · show z < T.heap.size; rw [h3]; exact z3
    · show Safe Z EL T.vm T.heap z; rw [h3]; exact A.safe z3 z4
  · show CHr Z EL x.s.vm x.s.heap T.vm T.heap; rw [h3]; exact h9.trans A
theorem Hr.finN {Q : Option Value → Heap → List Addr → Prop} {sn : List Addr} (H : Hr x b Z EL K S h sf pc Ls []) (hd : decode b.bytes pc = .ok (.return_, 1)) (hret : b.ret = none)
    (hK : K ≤ b.R.cells) (hS : S ≤ b.R.slots) (hsn : ∀ a ∈ sn, a ∈ sf) (q : Q none h sn) : Ends x b Z EL Q := by
  obtain ⟨B, T, locs, cells, slots, vm0, k0, ⟨X, h1, h2, h3, h4, h5, h6, h7, h8, h9, h10, h11, h12, h13, h14⟩, k⟩ := H
  have A := CHv.at X h7 B.1.choose_spec h9.1
  obtain ⟨fs, hr, hrun, hended, hW⟩ := (X.mono (Nat.le_trans h1 hK) (Nat.le_trans h2 hS)).leaveW h5 (by rw [h3]; exact h6) (v := none) (fun _ => rfl) B.2.2.2.2.2.1
  refine ⟨_, _, k _ (X.returnOut B.2.1 (by rw [B.2.2.2.2.1]; exact hret) (hb B.2.2.1 hd) hr), hrun, hended, none, locs, sn, rfl, ?_, ?_, fun z hz => ?_, h4, ?_, fun hn => State.WarmedH.trans (t := x.s.setVm vm0) (h13 hn) X.warmed, hW⟩
  · show Q none T.heap sn; rw [h3]; exact q
  · show Keep x.s.heap T.heap x.sf0; rw [h3]; exact h10
  · obtain ⟨z1, z2, z3, z4⟩ := h12 z (hsn z hz)
    refine ⟨z1, z2, ?_, ?_⟩
    · show z < T.heap.size; rw [h3]; exact z3
    · show Safe Z EL T.vm T.heap z; rw [h3]; exact A.safe z3 z4
  · show CHr Z EL x.s.vm x.s.heap T.vm T.heap; rw [h3]; exact h9.trans A
theorem Hr.finI {Q : Option Value → Heap → List Addr → Prop} {v : Int32} {sn : List Addr} (H : Hr x b Z EL K S h sf pc Ls (.int v :: st)) (hd : decode b.bytes pc = .ok (.ireturn, 1)) (q : Q (some (.int v)) h sn) (hsn : ∀ a ∈ sn, a ∈ sf) (hret : b.ret = some .int := by rfl) (hK : K ≤ b.R.cells := by decide) (hS : S ≤ b.R.slots := by decide) : Ends x b Z EL Q :=
  H.fin hd hret rfl (Or.inl ⟨rfl, Or.inl rfl, _, rfl⟩) hK hS hsn q
theorem Hr.finZ {Q : Option Value → Heap → List Addr → Prop} {v : Int32} {t : FieldType} {sn : List Addr} (H : Hr x b Z EL K S h sf pc Ls (.int v :: st)) (hd : decode b.bytes pc = .ok (.ireturn, 1)) (hn : narrow t (.int v) = .int v) (q : Q (some (.int v)) h sn) (hsn : ∀ a ∈ sn, a ∈ sf) (hret : b.ret = some t := by rfl) (ht : t = .int ∨ t = .boolean ∨ t = .byte ∨ t = .char ∨ t = .short := by simp) (hK : K ≤ b.R.cells := by decide) (hS : S ≤ b.R.slots := by decide) : Ends x b Z EL Q :=
  H.fin hd hret hn (Or.inl ⟨rfl, ht, _, rfl⟩) hK hS hsn q
theorem Hr.finA {Q : Option Value → Heap → List Addr → Prop} {v : Value} {t : FieldType} {sn : List Addr} (H : Hr x b Z EL K S h sf pc Ls (v :: st)) (hd : decode b.bytes pc = .ok (.areturn, 1)) (q : Q (some v) h sn) (hsn : ∀ a ∈ sn, a ∈ sf) (hv : v.isRef = true := by rfl) (hret : b.ret = some t := by rfl) (ht : t.isReference = true := by rfl) (hK : K ≤ b.R.cells := by decide) (hS : S ≤ b.R.slots := by decide) : Ends x b Z EL Q :=
  H.fin hd hret (by rcases ref_cases hv with rfl | ⟨a, rfl⟩ <;> cases t <;> first | rfl | cases ht) (Or.inr (Or.inr (Or.inr (Or.inr ⟨rfl, ht, hv⟩)))) hK hS hsn q
/-! ### calls -/
theorem Hr.callS {y : MethodName} {bytes : ByteArray} {maxL : Nat} {ret : Option FieldType} {rm : Room} {as' : Array Value} {sf' : List Addr} {Q : Option Value → Heap → List Addr → Prop} {index : Nat} {argsL rest : List Value} {ps : List FieldType} {rt : Option FieldType}
    (H : Hr x b Z EL K S h sf pc Ls st) (C : Ct x.l Z EL y bytes maxL ret rm as' h sf' x.nar x.kn Q) (sub : ∀ a ∈ sf', a ∈ sf)
    (w1 : (Jvm.Cond.methodLink b.y.cls index y).before a0 Z = true) (w2 : (Jvm.Cond.static y).before a0 Z = true) (w3 : (Jvm.Cond.initialized y.cls).before a0 Z = true) (w4 : (Jvm.Cond.code y bytes maxL ret).before a0 Z = true)
    (hd : decode b.bytes pc = .ok (.invokestatic index, 3)) (hp : parseMethodDescriptor y.desc = some ⟨ps, rt⟩) (hst : st = argsL.reverse ++ rest) (has : argsL.toArray = as' := by rfl) (hl2 : argsL.length = ps.length := by rfl) (hy : y.cls ≠ "java/lang/invoke/MethodHandle" ∧ y.cls ≠ "java/lang/invoke/VarHandle" := by decide)
    (hf : rm.frames + 1 ≤ b.R.frames := by decide) {Wr : Nat} (hW : (rest.map fun v => v.category).sum = Wr := by rfl) (hl : Wr + (maxL + 11) + rm.locals ≤ b.R.locals := by decide) (hc : K + rm.cells ≤ b.R.cells := by decide) (hs : S + rm.slots ≤ b.R.slots := by decide) (hLs : Ls.size = b.maxL := by rfl) (hpc : pc + 3 = pc' := by rfl) :
    ∃ (v : Option Value) (h' : Heap) (sn : List Addr), Q v h' sn ∧ Keep h h' sf' ∧ Hr x b Z EL (K + rm.cells) (S + rm.slots) h' (sn ++ sf) pc' Ls (v.toList ++ rest) := by
  subst has hpc hW
  obtain ⟨B, T, locs, cells, slots, vm0, k0, X, k⟩ := H
  have X2 := X
  obtain ⟨X1, h1, h2, h3, h4, h5, h6, h7, h8, h9, h10, h11, h12, h13, h14⟩ := X2
  obtain ⟨v, vm₁, P, -, X', hS, hgr, hp', hsteps⟩ := callSS X1 B.2.1 (own := b.y.cls) h8 (mvT h7 w1) (mvT h7 w2) (mvT h7 w3) (mvT h7 w4) hy
    (C.backS (W := (rest.map fun v => v.category).sum) h7 w4 w3 hf hl B.1.choose_spec h9.1 h11 (fun z hz => (h12 z (sub z hz)).2) h14)
    (g := mkF x.m pc Ls st) rfl (hLs.trans B.2.2.2.1.symm) (argsL := argsL) (rest := rest) (lenOf hp hl2) hst (by show 2 * 0 + _ ≤ _; omega) (hb B.2.2.1 hd) (fun vm₁ _ => ⟨rfl, h3, by show cells + _ ≤ _; omega, by show slots + _ ≤ _; omega⟩)
  obtain ⟨h', sn, r1, r2, r3⟩ := Hr.after (rm := rm) (sf' := sf') (Q := Q) B X k sub X' hS hgr hp' hsteps
  exact ⟨v, h', sn, r1, r2, r3⟩
theorem Hr.callI {y : MethodName} {bytes : ByteArray} {maxL : Nat} {rm : Room} {as' : Array Value} {sf' : List Addr} {Q : Option Value → Heap → List Addr → Prop} {index : Nat} {a : Addr} {argsL rest : List Value} {ps : List FieldType} {rt : Option FieldType}
    (H : Hr x b Z EL K S h sf pc Ls st) (C : Ct x.l Z EL y bytes maxL none rm as' h sf' x.nar x.kn Q) (sub : ∀ a ∈ sf', a ∈ sf)
    (w1 : (Jvm.Cond.methodLink b.y.cls index y).before a0 Z = true) (w2 : (Jvm.Cond.instanceMethod y).before a0 Z = true) (w3 : (Jvm.Cond.initialized y.cls).before a0 Z = true) (w4 : (Jvm.Cond.code y bytes maxL none).before a0 Z = true)
    (hd : decode b.bytes pc = .ok (.invokespecial index, 3)) (hp : parseMethodDescriptor y.desc = some ⟨ps, rt⟩) (hst : st = argsL.reverse ++ .ref a :: rest) (has : (Value.ref a :: argsL).toArray = as' := by rfl) (hl2 : argsL.length = ps.length := by rfl) (hy1 : y.name = "<init>" := by rfl) (hy : y.cls ≠ "java/lang/invoke/MethodHandle" ∧ y.cls ≠ "java/lang/invoke/VarHandle" := by decide)
    (hf : rm.frames + 1 ≤ b.R.frames := by decide) {Wr : Nat} (hW : (rest.map fun v => v.category).sum = Wr := by rfl) (hl : Wr + (maxL + 11) + rm.locals ≤ b.R.locals := by decide) (hc : K + rm.cells ≤ b.R.cells := by decide) (hs : S + rm.slots ≤ b.R.slots := by decide) (hLs : Ls.size = b.maxL := by rfl) (hpc : pc + 3 = pc' := by rfl) :
    ∃ (v : Option Value) (h' : Heap) (sn : List Addr), Q v h' sn ∧ Keep h h' sf' ∧ Hr x b Z EL (K + rm.cells) (S + rm.slots) h' (sn ++ sf) pc' Ls (v.toList ++ rest) := by
  subst has hpc hW
  obtain ⟨B, T, locs, cells, slots, vm0, k0, X, k⟩ := H
  have X2 := X
  obtain ⟨X1, h1, h2, h3, h4, h5, h6, h7, h8, h9, h10, h11, h12, h13, h14⟩ := X2
  obtain ⟨v, vm₁, P, -, X', hS, hgr, hp', hsteps⟩ := X1.specialBackS B.2.1 hy1 h8 (mvT h7 w1) (mvT h7 w2) (mvT h7 w4) hy
    (C.backS (W := (rest.map fun v => v.category).sum) h7 w4 w3 hf hl B.1.choose_spec h9.1 h11 (fun z hz => (h12 z (sub z hz)).2) h14)
    (g := mkF x.m pc Ls st) rfl (hLs.trans B.2.2.2.1.symm) (Steps.refl _) (a := a) (argsL := argsL) (rest := rest) (lenOf hp hl2) hst (by show 2 * 0 + _ ≤ _; omega) (hb B.2.2.1 hd) (fun vm₁ _ => ⟨rfl, h3, by show cells + _ ≤ _; omega, by show slots + _ ≤ _; omega⟩)
  obtain ⟨h', sn, r1, r2, r3⟩ := Hr.after (rm := rm) (sf' := sf') (Q := Q) B X k sub X' hS hgr hp' hsteps
  exact ⟨v, h', sn, r1, r2, r3⟩
theorem notFace_by {s : State} {args : Array Value} {C : String} {y y' : MethodName} (ws : (Jvm.Cond.selects C y' y').before args s = true) (hc : y'.cls = y.cls) : NotFace s y := fun r0 h0 => by
  obtain ⟨c2, r2, m2, -, -, q3, -, kP, hkP, hkPi⟩ := Cond.selects_spec ws
  have h1 := findClass_of_methodNamed h0
  have h2 := findClass_of_methodNamed q3
  rw [hc, h1] at h2
  have e : r0.cls = m2.cls := Option.some.inj h2
  rw [← e] at hkP
  exact ⟨kP, hkP, hkPi⟩
theorem Hr.callV {y y' z : MethodName} {bytes : ByteArray} {maxL : Nat} {ret : Option FieldType} {rm : Room} {as' : Array Value} {sf' : List Addr} {Q : Option Value → Heap → List Addr → Prop} {index : Nat} {a : Addr} {cls cls' : String} {argsL rest : List Value} {ps : List FieldType} {rt : Option FieldType}
    (H : Hr x b Z EL K S h sf pc Ls st) (C : Ct x.l Z EL z bytes maxL ret rm as' h sf' x.nar x.kn Q) (sub : ∀ a ∈ sf', a ∈ sf) (E : Exa Z h a cls)
    (w1 : (Jvm.Cond.methodLink b.y.cls index y).before a0 Z = true) (w2 : (Jvm.Cond.declares y).before a0 Z = true) (wn : (Jvm.Cond.selects cls' y' y').before a0 Z = true) (ws : (Jvm.Cond.selects cls y z).before a0 Z = true) (wi : (Jvm.Cond.instanceMethod z).before a0 Z = true) (w3 : (Jvm.Cond.initialized z.cls).before a0 Z = true) (w4 : (Jvm.Cond.code z bytes maxL ret).before a0 Z = true)
    (hd : decode b.bytes pc = .ok (.invokevirtual index, 3)) (hp : parseMethodDescriptor y.desc = some ⟨ps, rt⟩) (hst : st = argsL.reverse ++ .ref a :: rest) (hyc : y'.cls = y.cls := by rfl) (has : (Value.ref a :: argsL).toArray = as' := by rfl) (hl2 : argsL.length = ps.length := by rfl) (hy : y.cls ≠ "java/lang/invoke/MethodHandle" ∧ y.cls ≠ "java/lang/invoke/VarHandle" := by decide)
    (hf : rm.frames + 1 ≤ b.R.frames := by decide) {Wr : Nat} (hW : (rest.map fun v => v.category).sum = Wr := by rfl) (hl : Wr + (maxL + 11) + rm.locals ≤ b.R.locals := by decide) (hc : K + rm.cells ≤ b.R.cells := by decide) (hs : S + rm.slots ≤ b.R.slots := by decide) (hLs : Ls.size = b.maxL := by rfl) (hpc : pc + 3 = pc' := by rfl) :
    ∃ (v : Option Value) (h' : Heap) (sn : List Addr), Q v h' sn ∧ Keep h h' sf' ∧ Hr x b Z EL (K + rm.cells) (S + rm.slots) h' (sn ++ sf) pc' Ls (v.toList ++ rest) := by
  subst has hpc hW
  obtain ⟨B, T, locs, cells, slots, vm0, k0, X, k⟩ := H
  have X2 := X
  obtain ⟨X1, h1, h2, h3, h4, h5, h6, h7, h8, h9, h10, h11, h12, h13, h14⟩ := X2
  obtain ⟨cB, kB, i1, i2, i3⟩ := isOf (s := x.s.setVm vm0) (T := T) h7 h3 E
  obtain ⟨v, vm₁, P, -, X', hS, hgr, hp', hsteps⟩ := X1.virtualBackS B.2.1 (y := y) (z := z) h8 (mvT h7 w1) (mvT h7 w2) (notFace_by (args := #[]) (mvT h7 wn) hyc) (mvT h7 ws) (mvT h7 wi) hy
    (C.backS (W := (rest.map fun v => v.category).sum) h7 w4 w3 hf hl B.1.choose_spec h9.1 h11 (fun z hz => (h12 z (sub z hz)).2) h14) i1 i3
    (g := mkF x.m pc Ls st) rfl (hLs.trans B.2.2.2.1.symm) (Steps.refl _) (argsL := argsL) (rest := rest) (lenOf hp hl2) hst (by show 2 * 0 + _ ≤ _; omega) (hb B.2.2.1 hd) (fun vm₁ _ => ⟨rfl, h3, by show cells + _ ≤ _; omega, by show slots + _ ≤ _; omega⟩)
  obtain ⟨h', sn, r1, r2, r3⟩ := Hr.after (rm := rm) (sf' := sf') (Q := Q) B X k sub X' hS hgr hp' hsteps
  exact ⟨v, h', sn, r1, r2, r3⟩
end Layer2
end Jvm.Pilot.@@N@@
namespace Jvm.Pilot.@@N@@
open Jvm Jvm.ClassFile Sem Op Lib Bundle Jvm.Free Jvm.Stand Jvm.LawKit Jvm.RoadKit
section Layer3
variable {x : Cx} {b : Bx} {Z : State} {EL : List (String × Nat)} {K S : Nat} {h h' : Heap} {sf : List Addr} {pc pc' : Nat} {Ls Ls' : Array Slot} {st st' : List Value} {a0 : Array Value}
/-- an array and all that it holds -/
def Ar (Z : State) (h : Heap) (a : Addr) (ty : FieldType) (vs : List Value) : Prop := ∃ c : Cell, Arr Z h a c ty ∧ c.slots.toList = vs ∧ vs.length < 2147483648
variable {a d : Addr} {ty : FieldType} {vs : List Value} {ws : List Addr} {sl : Nat} {v : Value}
theorem neN {p q : Addr} (h : @Ne Nat p q) : p ≠ q := h
theorem exa_lt {C : String} (F : Exa Z h a C) : h.size > a := F.lt
theorem fld_lt {C n d : String} (F : Fld Z h a C n d v) : h.size > a := F.lt
theorem Ar.lt (F : Ar Z h a ty vs) : h.size > a := by obtain ⟨c, A, -⟩ := F; exact A.lt
theorem Ar.len (F : Ar Z h a ty vs) : vs.length < 2147483648 := by obtain ⟨c, A, -, q⟩ := F; exact q
theorem Ar.ext (F : Ar Z h a ty vs) (E : Ext h h') : Ar Z h' a ty vs := by obtain ⟨c, A, r⟩ := F; exact ⟨c, A.ext E, r⟩
theorem Ar.keep (F : Ar Z h a ty vs) (K : Keep h h' ws) (q : a ∉ ws) : Ar Z h' a ty vs := by obtain ⟨c, A, r⟩ := F; exact ⟨c, ⟨K.2.1 a c A.1 q, A.2⟩, r⟩
theorem Ar.other (F : Ar Z h a ty vs) (W : Wr h h' d sl v) (q : a ≠ d) : Ar Z h' a ty vs := by obtain ⟨c, A, r⟩ := F; exact ⟨c, A.other W q, r⟩
theorem Ar.set (F : Ar Z h a ty vs) (W : Wr h h' a sl v) : Ar Z h' a ty (vs.set sl v) := by
  obtain ⟨c, A, r1, r2⟩ := F
  exact ⟨_, A.same W, by subst r1; simp [Cell.setSlot], by simpa using r2⟩
theorem Ar.of_new {k : ClassId} {n : Int32} (A : Arr Z h a (newA k ty n) ty) (hn : ¬ n < 0) : Ar Z h a ty (List.replicate n.toNatClampNeg (defaultValue ty)) :=
  ⟨_, A, by simp [newA], by have := (back32 hn).2; simpa using this⟩
theorem Ar.of_arv {k : ClassId} {z : Int32} {dv : Value} (F : Arv Z h a k ty z vs dv) (hz : z.toNatClampNeg = vs.length) : Ar Z h a ty vs := by
  obtain ⟨c, A, -, r2, r3, r4, -⟩ := F
  refine ⟨c, A, ?_, by have := (back32 r3).2; omega⟩
  apply List.ext_getElem?
  intro i
  by_cases hi : i < vs.length
  · have := r4 i (by omega)
    rw [Array.getElem?_toList, this]
    simp [List.getD, hi]
  · rw [List.getElem?_eq_none (by rw [Array.length_toList]; omega), List.getElem?_eq_none (by omega)]
theorem Ar.at {c : Cell} {i : Nat} {j : Int32} (hc : c.slots.toList = vs) (hl : vs.length < 2147483648) (hj : j = Int32.ofNat i) (hv : vs[i]? = some v) : ¬ (j < 0 ∨ c.slots.size ≤ j.toNatClampNeg) ∧ j.toNatClampNeg = i ∧ c.slots[j.toNatClampNeg]? = some v := by
  obtain ⟨hi, -⟩ := List.getElem?_eq_some_iff.mp hv
  have hs : c.slots.size = vs.length := by rw [← hc, Array.length_toList]
  have h2 : j.toNatClampNeg = i := clamp_of hj (by omega)
  exact ⟨by rw [hs]; exact within hj hi (by omega), h2, by rw [h2, ← Array.getElem?_toList, hc]; exact hv⟩
theorem Hr.arraylength {n : Int32} (H : Hr x b Z EL K S h sf pc Ls (.ref a :: st)) (A : Ar Z h a ty vs) (hd : decode b.bytes pc = .ok (.arraylength, 1)) (hn : Int32.ofNat vs.length = n := by rfl) (hpc : pc + 1 = pc' := by rfl) : Hr x b Z EL K S h sf pc' Ls (.int n :: st) := by
  subst hpc hn
  obtain ⟨c, A1, r1, r2⟩ := A
  refine H.same fun T locs cells slots vm0 X eT hZ hown B => ⟨T, X, eT, fun t q => X.arraylength B.2.1 (cell := c) (ty := ty) (by rw [eT]; exact A1.1) (State.isArrayOf_alike hZ.alike A1.2.1) (g := mkF x.m pc Ls (.ref a :: st)) rfl rfl (hb B.2.2.1 hd) t ?_⟩
  have e : c.slots.size.toInt32 = Int32.ofNat vs.length := by rw [← r1, Array.length_toList]
  rw [e]; exact q
theorem Hr.caload {i : Nat} {j : Int32} (H : Hr x b Z EL K S h sf pc Ls (.int j :: .ref a :: st)) (A : Ar Z h a .char vs) (hd : decode b.bytes pc = .ok (.caload, 1)) (hj : j = Int32.ofNat i) (hv : vs[i]? = some v) (hpc : pc + 1 = pc' := by rfl) : Hr x b Z EL K S h sf pc' Ls (v :: st) := by
  subst hpc
  obtain ⟨c, A1, r1, r2⟩ := A
  obtain ⟨q1, q2, q3⟩ := Ar.at r1 r2 hj hv
  exact H.same fun T locs cells slots vm0 X eT hZ hown B => ⟨T, X, eT, fun t q => X.caload B.2.1 (cell := c) (by rw [eT]; exact A1.1) (State.isArrayOf_alike hZ.alike A1.2.1) A1.2.2 q1 q3 (g := mkF x.m pc Ls (.int j :: .ref a :: st)) rfl rfl (hb B.2.2.1 hd) t q⟩
theorem Hr.baload {i : Nat} {j : Int32} (H : Hr x b Z EL K S h sf pc Ls (.int j :: .ref a :: st)) (A : Ar Z h a .byte vs) (hd : decode b.bytes pc = .ok (.baload, 1)) (hj : j = Int32.ofNat i) (hv : vs[i]? = some v) (hpc : pc + 1 = pc' := by rfl) : Hr x b Z EL K S h sf pc' Ls (v :: st) := by
  subst hpc
  obtain ⟨c, A1, r1, r2⟩ := A
  obtain ⟨q1, q2, q3⟩ := Ar.at r1 r2 hj hv
  exact H.same fun T locs cells slots vm0 X eT hZ hown B => ⟨T, X, eT, fun t q => X.baloadBytes B.2.1 (cell := c) (by rw [eT]; exact A1.1) (State.isArrayOf_alike hZ.alike A1.2.1) A1.2.2 q1 q3 (g := mkF x.m pc Ls (.int j :: .ref a :: st)) rfl rfl (hb B.2.2.1 hd) t q⟩
theorem Hr.iaload {i : Nat} {j : Int32} (H : Hr x b Z EL K S h sf pc Ls (.int j :: .ref a :: st)) (A : Ar Z h a .int vs) (hd : decode b.bytes pc = .ok (.iaload, 1)) (hj : j = Int32.ofNat i) (hv : vs[i]? = some v) (hpc : pc + 1 = pc' := by rfl) : Hr x b Z EL K S h sf pc' Ls (v :: st) := by
  subst hpc
  obtain ⟨c, A1, r1, r2⟩ := A
  obtain ⟨q1, q2, q3⟩ := Ar.at r1 r2 hj hv
  exact H.same fun T locs cells slots vm0 X eT hZ hown B => ⟨T, X, eT, fun t q => X.iaload B.2.1 (cell := c) (by rw [eT]; exact A1.1) (State.isArrayOf_alike hZ.alike A1.2.1) A1.2.2 q1 q3 (g := mkF x.m pc Ls (.int j :: .ref a :: st)) rfl rfl (hb B.2.2.1 hd) t q⟩
theorem Hr.aaload {i : Nat} {j : Int32} (H : Hr x b Z EL K S h sf pc Ls (.int j :: .ref a :: st)) (A : Ar Z h a ty vs) (hd : decode b.bytes pc = .ok (.aaload, 1)) (hj : j = Int32.ofNat i) (hv : vs[i]? = some v) (hty : ty.isReference = true := by rfl) (hpc : pc + 1 = pc' := by rfl) : Hr x b Z EL K S h sf pc' Ls (v :: st) := by
  subst hpc
  obtain ⟨c, A1, r1, r2⟩ := A
  obtain ⟨q1, q2, q3⟩ := Ar.at r1 r2 hj hv
  exact H.same fun T locs cells slots vm0 X eT hZ hown B => ⟨T, X, eT, fun t q => X.aaload B.2.1 (cell := c) (by rw [eT]; exact A1.1) (State.isArrayOf_alike hZ.alike A1.2.1) hty A1.2.2 q1 q3 (g := mkF x.m pc Ls (.int j :: .ref a :: st)) rfl rfl (hb B.2.2.1 hd) t q⟩
theorem Hr.castore {i : Nat} {j u w : Int32} (H : Hr x b Z EL K S h sf pc Ls (.int u :: .int j :: .ref a :: st)) (ha : a ∈ sf) (A : Ar Z h a .char vs) (hd : decode b.bytes pc = .ok (.castore, 1)) (hj : j = Int32.ofNat i) (hi : i < vs.length) (hw : nar .char u = w := by rfl) (hpc : pc + 1 = pc' := by rfl) :
    ∃ h', Wr h h' a i (.int w) ∧ Hr x b Z EL K S h' sf pc' Ls st := by
  subst hpc hw
  obtain ⟨c, A1, r1, r2⟩ := A
  obtain ⟨q1, q2, q3⟩ := Ar.at r1 r2 hj (List.getElem?_eq_getElem hi)
  rw [← q2]
  exact H.write ha fun T locs cells slots vm0 X eT hZ hown B => stC X B.2.1 hZ eT A1 q1 (g := mkF x.m pc Ls (.int u :: .int j :: .ref a :: st)) rfl rfl (hb B.2.2.1 hd)
theorem Hr.bastore {i : Nat} {j u w : Int32} (H : Hr x b Z EL K S h sf pc Ls (.int u :: .int j :: .ref a :: st)) (ha : a ∈ sf) (A : Ar Z h a .byte vs) (hd : decode b.bytes pc = .ok (.bastore, 1)) (hj : j = Int32.ofNat i) (hi : i < vs.length) (hw : nar .byte u = w := by rfl) (hpc : pc + 1 = pc' := by rfl) :
    ∃ h', Wr h h' a i (.int w) ∧ Hr x b Z EL K S h' sf pc' Ls st := by
  subst hpc hw
  obtain ⟨c, A1, r1, r2⟩ := A
  obtain ⟨q1, q2, q3⟩ := Ar.at r1 r2 hj (List.getElem?_eq_getElem hi)
  rw [← q2]
  exact H.write ha fun T locs cells slots vm0 X eT hZ hown B => stB X B.2.1 hZ eT A1 q1 (g := mkF x.m pc Ls (.int u :: .int j :: .ref a :: st)) rfl rfl (hb B.2.2.1 hd)
theorem Hr.iastore {i : Nat} {j u : Int32} (H : Hr x b Z EL K S h sf pc Ls (.int u :: .int j :: .ref a :: st)) (ha : a ∈ sf) (A : Ar Z h a .int vs) (hd : decode b.bytes pc = .ok (.iastore, 1)) (hj : j = Int32.ofNat i) (hi : i < vs.length) (hpc : pc + 1 = pc' := by rfl) :
    ∃ h', Wr h h' a i (.int u) ∧ Hr x b Z EL K S h' sf pc' Ls st := by
  subst hpc
  obtain ⟨c, A1, r1, r2⟩ := A
  obtain ⟨q1, q2, q3⟩ := Ar.at r1 r2 hj (List.getElem?_eq_getElem hi)
  rw [← q2]
  exact H.write ha fun T locs cells slots vm0 X eT hZ hown B => stI X B.2.1 hZ eT A1 q1 (g := mkF x.m pc Ls (.int u :: .int j :: .ref a :: st)) rfl rfl (hb B.2.2.1 hd)
theorem Hr.newarray {aty : ArrayType} {n : Int32} {cap : Nat} (H : Hr x b Z EL K S h sf pc Ls (.int n :: st)) (w : (Jvm.Cond.arrayClass (newarray.typeOf aty)).before a0 Z = true) (hd : decode b.bytes pc = .ok (.newarray aty, 2)) (hn : ¬ n < 0) (hcap : n.toNatClampNeg ≤ cap) (hb8 : cap * 8 ≤ 536870912)
    (hc : K + 1 ≤ b.R.cells := by decide) (hl : S + cap ≤ b.R.slots := by decide) (hpc : pc + 2 = pc' := by rfl) :
    ∃ h', Ext h h' ∧ Ar Z h' h.size (newarray.typeOf aty) (List.replicate n.toNatClampNeg (defaultValue (newarray.typeOf aty))) ∧ Hr x b Z EL (K + 1) (S + cap) h' (h.size :: sf) pc' Ls (.ref h.size :: st) := by
  subst hpc
  refine H.alloc hc hl (P := fun h' => Ar Z h' h.size (newarray.typeOf aty) (List.replicate n.toNatClampNeg (defaultValue (newarray.typeOf aty)))) (fun h' q => q.lt) fun T locs cells slots vm0 X eT hZ hown B hc' hl' => ?_
  obtain ⟨T', h', cA, X', e', E, A, st1⟩ := newP X B.2.1 hZ w eT (g := mkF x.m pc Ls (.int n :: st)) rfl (hb B.2.2.1 hd) rfl hn hcap hb8 hc' hl'
  exact ⟨T', h', X', e', E, Ar.of_new A hn, st1⟩
/-! ### Strings -/
abbrev ST : String := "java/lang/String"
/-- a Latin-1 String: its value array lies at t and holds the bytes bs -/
def Str (Z : State) (h : Heap) (a t : Addr) (bs : List Int32) : Prop := Exa Z h a ST ∧ Fld Z h a ST "coder" "B" (.int 0) ∧ Fld Z h a ST "value" "[B" (.ref t) ∧ Ar Z h t .byte (bs.map Value.int)
variable {t : Addr} {bs : List Int32}
theorem Str.ext (F : Str Z h a t bs) (E : Ext h h') : Str Z h' a t bs := ⟨F.1.ext E, F.2.1.ext E, F.2.2.1.ext E, F.2.2.2.ext E⟩
theorem Str.keep (F : Str Z h a t bs) (K : Keep h h' ws) (q : a ∉ ws) (q' : t ∉ ws) : Str Z h' a t bs := ⟨F.1.keep K, F.2.1.keep K q, F.2.2.1.keep K q, F.2.2.2.keep K q'⟩
theorem Str.other (F : Str Z h a t bs) (W : Wr h h' d sl v) (q : a ≠ d) (q' : t ≠ d) : Str Z h' a t bs := ⟨F.1.wr W, F.2.1.other W (Or.inl q), F.2.2.1.other W (Or.inl q), F.2.2.2.other W q'⟩
theorem Str.lt (F : Str Z h a t bs) : h.size > a := F.1.lt
theorem Str.lt' (F : Str Z h a t bs) : h.size > t := F.2.2.2.lt
theorem Str.len (F : Str Z h a t bs) : bs.length < 2147483648 := by have := F.2.2.2.len; simpa using this
/-- ldc of a String constant, its text read -/
theorem Hr.ldcS {index n : Nat} {text : String} {z : Int32} (H : Hr x b Z EL K S h sf pc Ls st) (w : (Jvm.Cond.stringLink b.y.cls index text).before a0 Z = true) (wS : ∀ d ∈ Bundle.stringAtoms, d.before a0 Z = true) (hEL : EW Z a0 EL) (hmem : (b.y.cls, index) ∈ EL)
    (ht : (∀ c ∈ text.toList, c.toNat < 256) ∧ text.toList.map (fun c => Jvm.Lit.byteI c.toNat.toUInt16) = bs) (hz : ¬ z < 0) (hl : z.toNatClampNeg = bs.length) (hd : decode b.bytes pc = .ok (.ldc index, 2)) (hn : 4 * text.toList.length ≤ n) (hbig : n ≤ 536870912)
    (hnar : x.nar = false) (hc : K + 2 ≤ b.R.cells := by decide) (hl' : S + (n + 4) ≤ b.R.slots := by decide) (hpc : pc + 2 = pc' := by rfl) :
    ∃ (a t : Addr) (h' : Heap), Ext h h' ∧ Str Z h' a t bs ∧ (∀ y ∈ sf, y ≠ a ∧ y ≠ t) ∧ Hr x b Z EL (K + 2) (S + (n + 4)) h' sf pc' Ls (.ref a :: st) := by
  subst hpc
  obtain ⟨B, T, locs, cells, slots, vm0, k0, ⟨X, h1, h2, h3, h4, h5, h6, h7, h8, h9, h10, h11, h12, h13, h14⟩, k⟩ := H
  obtain ⟨a, T', h', k1, b', kc, X', e', E, hS, hk, hW, hf, g1, g2, g3, g4, g5, g6, hC, -, hsafe, st1⟩ := ldcCH X B.2.1 h7 h8 w wS h3 h5 h6 hEL hmem h9.1 (vs := bs.map Value.int) ⟨ht.1, by rw [← ht.2]; simp⟩ hz (by simpa using hl) (g := mkF x.m pc Ls st) rfl (hb B.2.2.1 hd) hn hbig (by omega) (by omega)
  have hm : ∀ y ∈ sf, Mine x Z EL T'.vm h' y := fun y hy => by
    obtain ⟨y1, y2, y3, y4⟩ := h12 y hy
    exact ⟨y1, y2, Nat.lt_of_lt_of_le y3 E.1, hC.safe y3 y4⟩
  refine ⟨a, b', h', E, ⟨g1, g2, g3, Ar.of_arv g4 (by simpa using hl)⟩, fun y hy => hsafe y (hm y hy).2.2.2, B, T', locs, _, _, T'.vm, k1, ⟨X', by omega, by omega, e', h4, hS, hk, hW, hf, h9.trans hC, h10.ext E, Ext.tr h11 E, hm, fun hn => ?_, fun hk => ?_⟩, fun t q => k t (st1 t q)⟩
  · rw [hnar] at hn; cases hn
  · have hal : vm0.Alike T'.vm := h7.alike.symm.trans hW.alike
    exact ⟨Vm.MethodsKnown.alikeC hal (h14 hk).1, Vm.FramesKnown.alikeC hal (h14 hk).2⟩
end Layer3
end Jvm.Pilot.@@N@@
namespace Jvm.Pilot.@@N@@
open Jvm Jvm.ClassFile Sem Op Lib Bundle Jvm.Free Jvm.Stand Jvm.LawKit Jvm.RoadKit
section Layer5
variable {x : Cx} {b : Bx} {Z : State} {EL : List (String × Nat)} {K S : Nat} {h h' : Heap} {sf : List Addr} {pc pc' : Nat} {Ls Ls' : Array Slot} {st st' : List Value} {a0 : Array Value} {a d : Addr}
/-- a step of the library that writes one cell of the walk's, as often as it likes -/
theorem Hr.keepW {P : Heap → Prop} (H : Hr x b Z EL K S h sf pc Ls st) (ha : d ∈ sf)
    (f : ∀ (T : State) (locs : List Loc) (cells slots : Nat) (vm0 : Vm), Stand x.p x.l x.e b.R (x.s.setVm vm0) x.m x.args x.below x.meth x.c T locs cells slots → T.heap = h → Z.Warmed39 (x.s.setVm vm0).vm → (x.s.setVm vm0).vm.findClass b.y.cls = some x.m.cls → Bs x b Z EL → Fr Z.heap.size locs → Z.heap.size ≤ d →
      ∃ T' h' L, Stand x.p x.l x.e b.R (x.s.setVm vm0) x.m x.args x.below x.meth x.c T' L cells slots ∧ T'.heap = h' ∧ Fr Z.heap.size L ∧ Keep h h' [d] ∧ P h' ∧ ∀ target, Steps x.p.tables x.e x.below (T'.setTop (mkF x.m pc' Ls' st')) target → Steps x.p.tables x.e x.below (T.setTop (mkF x.m pc Ls st)) target) :
    ∃ h', Keep h h' [d] ∧ P h' ∧ Hr x b Z EL K S h' sf pc' Ls' st' := by
  obtain ⟨B, T, locs, cells, slots, vm0, k0, ⟨X, h1, h2, h3, h4, h5, h6, h7, h8, h9, h10, h11, h12, h13, h14⟩, k⟩ := H
  have hm := h12 d ha
  obtain ⟨T', h', L, X', e', N, W, hp, st1⟩ := f T locs cells slots vm0 X h3 h7 h8 B h4 hm.2.1
  have hs : ∀ z ∈ [d], Safe Z EL vm0 h z := fun z hz => by cases List.mem_singleton.mp hz; exact hm.2.2.2
  refine ⟨h', W, hp, B, T', L, cells, slots, vm0, k0, ⟨X', h1, h2, e', N, h5, Nat.le_trans h6 W.1, h7, h8, h9.trans (CHr.keep W hs h9.1), h10.trans W (fun z hz => by cases List.mem_singleton.mp hz; exact hm.1), Ext.ofKeep h11 W (allS hm.2.1 all0), fun y hy => ?_, h13, h14⟩, fun t q => k t (st1 t q)⟩
  obtain ⟨y1, y2, y3, y4⟩ := h12 y hy
  exact ⟨y1, y2, Nat.lt_of_lt_of_le y3 W.1, Safe.keep W hs h9.1 y4⟩
theorem Ar.arv {ty : FieldType} {vs : List Value} {dv : Value} (F : Ar Z h a ty vs) (hf : ∀ v ∈ vs, fits ty v = true) : ∃ k, Arv Z h a k ty (Int32.ofNat vs.length) vs dv := by
  obtain ⟨c, A, r1, r2⟩ := F
  have hs : c.slots.size = vs.length := by rw [← r1, Array.length_toList]
  refine ⟨c.cls, c, A, rfl, by rw [hs]; exact (clamp_of rfl (by omega)).symm, by rw [Int32.lt_iff_toInt_lt, toInt_of rfl (by omega)]; simp, fun i hi => ?_, fun i hi => ?_⟩
  · rw [← Array.getElem?_toList, r1, List.getElem?_eq_getElem (by omega)]; simp [List.getD, show i < vs.length by omega]
  · have hi' : i < vs.length := by omega
    simp [List.getD, hi']; exact hf _ (List.getElem_mem hi')
theorem nn32 {n : Nat} (h : n < 2147483648) : ¬ Int32.ofNat n < 0 := by rw [Int32.lt_iff_toInt_lt, toInt_of rfl (by omega)]; simp
/-- System.arraycopy between arrays of one plain kind -/
theorem Hr.arraycopy {index i j n : Nat} {ty : FieldType} {vs ws : List Value} (H : Hr x b Z EL K S h sf pc Ls (.int (Int32.ofNat n) :: .int (Int32.ofNat j) :: .ref d :: .int (Int32.ofNat i) :: .ref a :: st)) (hds : d ∈ sf)
    (w1 : (Jvm.Cond.methodLink b.y.cls index Jvm.Stand.acN).before a0 Z = true) (w2 : (Jvm.Cond.native Jvm.Stand.acN).before a0 Z = true) (w3 : (Jvm.Cond.static Jvm.Stand.acN).before a0 Z = true) (w4 : (Jvm.Cond.initialized "java/lang/System").before a0 Z = true)
    (A : Ar Z h a ty vs) (D : Ar Z h d ty ws) (hty : refKind ty = false) (hfa : ∀ v ∈ vs, fits ty v = true) (hfd : ∀ v ∈ ws, fits ty v = true) (h1 : i + n ≤ vs.length) (h2 : j + n ≤ ws.length) (hd : decode b.bytes pc = .ok (.invokestatic index, 3))
    (hf : 1 ≤ b.R.frames := by decide) {Wr : Nat} (hW : (st.map fun v => v.category).sum = Wr := by rfl) (hl : Wr + 18 ≤ b.R.locals := by decide) (hLs : Ls.size = b.maxL := by rfl) (hpc : pc + 3 = pc' := by rfl) :
    ∃ h', Keep h h' [d] ∧ Ar Z h' d ty (ws.take j ++ (vs.drop i).take n ++ ws.drop (j + n)) ∧ Hr x b Z EL K S h' sf pc' Ls st := by
  subst hpc hW
  have la := A.len
  have ld := D.len
  obtain ⟨k1, A1⟩ := A.arv (dv := .int 0) hfa
  obtain ⟨k2, D1⟩ := D.arv (dv := .int 0) hfd
  have ci := clamp_of (n := Int32.ofNat i) rfl (show i < 2 ^ 31 by omega)
  have cj := clamp_of (n := Int32.ofNat j) rfl (show j < 2 ^ 31 by omega)
  have cn := clamp_of (n := Int32.ofNat n) rfl (show n < 2 ^ 31 by omega)
  have ca := clamp_of (n := Int32.ofNat vs.length) rfl (show vs.length < 2 ^ 31 by omega)
  have cd := clamp_of (n := Int32.ofNat ws.length) rfl (show ws.length < 2 ^ 31 by omega)
  have hus : (List.range n).map (fun q => vs.getD (i + q) (.int 0)) = (vs.drop i).take n := by
    apply List.ext_getElem
    · simp; omega
    · intro q q1 q2
      simp at q1 q2
      simp [List.getD, show i + q < vs.length by omega]
  refine H.keepW hds (P := fun h' => Ar Z h' d ty (ws.take j ++ (vs.drop i).take n ++ ws.drop (j + n))) fun T locs cells slots vm0 X eT hZ hown B N ge => ?_
  obtain ⟨T', h', L, X', e', N', W, F', st1⟩ := cpA X B.2.1 hZ hown w1 w2 w3 w4 eT A1 D1 (us := (vs.drop i).take n) (Or.inl ⟨rfl, hty⟩) (nn32 (by omega)) (nn32 (by omega)) (nn32 (by omega)) (by rw [ci, cn, ca]; exact h1) (by rw [cj, cn, cd]; exact h2) (by rw [ci, cn]; exact hus.symm) (by rw [cj, cn]; exact h2) N ge
    (g := mkF x.m pc Ls (.int (Int32.ofNat n) :: .int (Int32.ofNat j) :: .ref d :: .int (Int32.ofNat i) :: .ref a :: st)) rfl (hLs.trans B.2.2.2.1.symm) rfl (hb B.2.2.1 hd) hf (W := (st.map fun v => v.category).sum) (by show 2 * 0 + _ ≤ _; omega) (by show _ + (_ + 11) ≤ _; exact hl)
  rw [cj, cn] at F'
  refine ⟨T', h', L, X', e', N', W, Ar.of_arv F' (by rw [cd]; simp; omega), st1⟩
/-- a private method of the receiver's class (or above it), by invokevirtual -/
theorem Hr.callP {y y' : MethodName} {bytes : ByteArray} {maxL : Nat} {ret : Option FieldType} {rm : Room} {as' : Array Value} {sf' : List Addr} {Q : Option Value → Heap → List Addr → Prop} {index : Nat} {cls cls' : String} {argsL rest : List Value} {ps : List FieldType} {rt : Option FieldType}
    (H : Hr x b Z EL K S h sf pc Ls st) (C : Ct x.l Z EL y bytes maxL ret rm as' h sf' x.nar x.kn Q) (sub : ∀ a ∈ sf', a ∈ sf) (E : Exa Z h a cls)
    (w1 : (Jvm.Cond.methodLink b.y.cls index y).before a0 Z = true) (wi : (Jvm.Cond.instanceMethod y).before a0 Z = true) (ws : (Jvm.Cond.selects cls' y' y').before a0 Z = true) (wp : (Jvm.Cond.privateMethod y).before a0 Z = true) (w3 : (Jvm.Cond.initialized y.cls).before a0 Z = true) (w4 : (Jvm.Cond.code y bytes maxL ret).before a0 Z = true)
    (hd : decode b.bytes pc = .ok (.invokevirtual index, 3)) (hp : parseMethodDescriptor y.desc = some ⟨ps, rt⟩) (hst : st = argsL.reverse ++ .ref a :: rest) (hyc : y'.cls = y.cls := by rfl) (has : (Value.ref a :: argsL).toArray = as' := by rfl) (hl2 : argsL.length = ps.length := by rfl) (hy : y.cls ≠ "java/lang/invoke/MethodHandle" ∧ y.cls ≠ "java/lang/invoke/VarHandle" := by decide)
    (hf : rm.frames + 1 ≤ b.R.frames := by decide) {Wr : Nat} (hW : (rest.map fun v => v.category).sum = Wr := by rfl) (hl : Wr + (maxL + 11) + rm.locals ≤ b.R.locals := by decide) (hc : K + rm.cells ≤ b.R.cells := by decide) (hs : S + rm.slots ≤ b.R.slots := by decide) (hLs : Ls.size = b.maxL := by rfl) (hpc : pc + 3 = pc' := by rfl) :
    ∃ (v : Option Value) (h' : Heap) (sn : List Addr), Q v h' sn ∧ Keep h h' sf' ∧ Hr x b Z EL (K + rm.cells) (S + rm.slots) h' (sn ++ sf) pc' Ls (v.toList ++ rest) := by
  subst has hpc hW
  obtain ⟨B, T, locs, cells, slots, vm0, k0, X, k⟩ := H
  have X2 := X
  obtain ⟨X1, h1, h2, h3, h4, h5, h6, h7, h8, h9, h10, h11, h12, h13, h14⟩ := X2
  obtain ⟨cq, q1, q2⟩ := E.cell
  obtain ⟨mk, methM, hnamed, hmethM, hstM, habM⟩ := Cond.instanceMethod_spec (mv (args := x.args) (s := x.s.setVm vm0) h7 wi)
  obtain ⟨methM', cM, hmethM', -, -, -, -, -, -, hsigM⟩ := Cond.code_spec hnamed (mv (args := x.args) (s := x.s.setVm vm0) h7 w4)
  cases hmethM.symm.trans hmethM'
  obtain ⟨c2, r2, m2, -, -, q3, -, kP, hkP, hkPi⟩ := Cond.selects_spec (mv (args := x.args) (s := x.s.setVm vm0) h7 ws)
  have hcn := findClass_of_methodNamed hnamed
  have hcn' := findClass_of_methodNamed q3
  rw [hyc, hcn] at hcn'
  have e : mk.cls = m2.cls := Option.some.inj hcn'
  rw [← e] at hkP
  have hselP : selectMethod x.e.platform (x.s.setVm vm0).vm cq.cls mk = .method mk := selectMethod_private hmethM (Cond.privateMethod_at (mvP (s := x.s.setVm vm0) h7 wp (args := #[])) mk methM hnamed hmethM)
  obtain ⟨vm₁, X₁, hstep₁⟩ := X1.invokevirtual B.2.1 h8 (mvT h7 w1) hnamed hmethM hstM hkP hkPi hy (a := a) (cell := cq) (by rw [h3]; exact q1) q2 hselP hmethM habM hkP hkPi (g := mkF x.m pc Ls st) rfl (argsL := argsL) (rest := rest) (lenOf hp hl2 _ hsigM) hst (hb B.2.2.1 hd)
  have hW₁ : (x.s.setVm vm0).WarmedH vm₁ := X₁.warmed
  obtain ⟨v, P, X', hS, hgr, hp', hsteps⟩ := (C.backS (p := x.p) (e := x.e) (R := b.R) (below := x.below) (s := x.s) (args := x.args) (len := 3) (W := (rest.map fun v => v.category).sum) h7 w4 w3 hf hl B.1.choose_spec h9.1 h11 (fun z hz => (h12 z (sub z hz)).2) h14) x.m x.meth x.c ⟨T.setVm vm₁, locs, cells, slots⟩ (mkF x.m pc Ls rest) (.invokevirtual index) mk (.ref a :: argsL).toArray X₁ rfl (hLs.trans B.2.2.2.1.symm) (hb B.2.2.1 hd) (by show 2 * 0 + (rest.map fun v => v.category).sum ≤ (rest.map fun v => v.category).sum; omega) (X₁.named hnamed) ⟨rfl, h3, by show cells + _ ≤ _; omega, by show slots + _ ≤ _; omega⟩
  obtain ⟨h', sn, r1, r2, r3⟩ := Hr.after (rm := rm) (sf' := sf') (Q := Q) (pc' := pc + 3) (st' := v.toList ++ rest) B X k sub X' hS hgr hp' ((hstep₁ _ fun acts => by rw [doInvoke_state]; exact Steps.refl _).trans hsteps)
  exact ⟨v, h', sn, r1, r2, r3⟩
theorem same_own {s : State} {args : Array Value} {y y' : MethodName} {C : String} (wd : (Jvm.Cond.instanceMethod y).before args s = true) (ws : (Jvm.Cond.selects C y' y').before args s = true) (hc : y'.cls = y.cls) (hy : y.cls ≠ "java/lang/invoke/MethodHandle" ∧ y.cls ≠ "java/lang/invoke/VarHandle") : (Jvm.Cond.sameMethod y.cls y.cls y.name y.desc).before args s = true := by
  obtain ⟨mk, methM, hnamed, hmethM, hstM, habM⟩ := Cond.instanceMethod_spec wd
  obtain ⟨c2, r2, m2, -, -, q3, -, kP, hkP, hkPi⟩ := Cond.selects_spec ws
  have hcn := findClass_of_methodNamed hnamed
  have hcn' := findClass_of_methodNamed q3
  rw [hc, hcn] at hcn'
  have e : mk.cls = m2.cls := Option.some.inj hcn'
  rw [← e] at hkP
  have hf := State.methodFound?_of_named hnamed hy
  have hn : s.methodNamed? ⟨y.cls, y.name, y.desc⟩ = some mk := hnamed
  simp [Cond.before, Cond.holds, Cond.value, hcn, hf, hn, hkP, hkPi]
/-- super.m(..) -/
theorem Hr.callSup {y y' : MethodName} {bytes : ByteArray} {maxL : Nat} {ret : Option FieldType} {rm : Room} {as' : Array Value} {sf' : List Addr} {Q : Option Value → Heap → List Addr → Prop} {index : Nat} {cls cls' : String} {argsL rest : List Value} {ps : List FieldType} {rt : Option FieldType}
    (H : Hr x b Z EL K S h sf pc Ls st) (C : Ct x.l Z EL y bytes maxL ret rm as' h sf' x.nar x.kn Q) (sub : ∀ a ∈ sf', a ∈ sf) (E : Exa Z h a cls)
    (w1 : (Jvm.Cond.methodLink b.y.cls index y).before a0 Z = true) (wi : (Jvm.Cond.instanceMethod y).before a0 Z = true) (wf : (Jvm.Cond.selects cls' y' y').before a0 Z = true) (wu : (Jvm.Cond.superclass b.y.cls y.cls).before a0 Z = true) (w3 : (Jvm.Cond.initialized y.cls).before a0 Z = true) (w4 : (Jvm.Cond.code y bytes maxL ret).before a0 Z = true)
    (hd : decode b.bytes pc = .ok (.invokespecial index, 3)) (hp : parseMethodDescriptor y.desc = some ⟨ps, rt⟩) (hst : st = argsL.reverse ++ .ref a :: rest) (hc' : y'.cls = y.cls := by rfl) (has : (Value.ref a :: argsL).toArray = as' := by rfl) (hl2 : argsL.length = ps.length := by rfl) (hn : y.name ≠ "<init>" := by decide) (hy : y.cls ≠ "java/lang/invoke/MethodHandle" ∧ y.cls ≠ "java/lang/invoke/VarHandle" := by decide)
    (hf : rm.frames + 1 ≤ b.R.frames := by decide) {Wr : Nat} (hW : (rest.map fun v => v.category).sum = Wr := by rfl) (hl : Wr + (maxL + 11) + rm.locals ≤ b.R.locals := by decide) (hc : K + rm.cells ≤ b.R.cells := by decide) (hs : S + rm.slots ≤ b.R.slots := by decide) (hLs : Ls.size = b.maxL := by rfl) (hpc : pc + 3 = pc' := by rfl) :
    ∃ (v : Option Value) (h' : Heap) (sn : List Addr), Q v h' sn ∧ Keep h h' sf' ∧ Hr x b Z EL (K + rm.cells) (S + rm.slots) h' (sn ++ sf) pc' Ls (v.toList ++ rest) := by
  subst has hpc hW
  obtain ⟨B, T, locs, cells, slots, vm0, k0, X, k⟩ := H
  have X2 := X
  obtain ⟨X1, h1, h2, h3, h4, h5, h6, h7, h8, h9, h10, h11, h12, h13, h14⟩ := X2
  obtain ⟨v, vm₁, P, -, X', hS, hgr, hp', hsteps⟩ := superBackS X1 B.2.1 h7 (K := cls) h8 w1 (same_own wi wf hc' hy) wi wu hn
    (C.backS (W := (rest.map fun v => v.category).sum) h7 w4 w3 hf hl B.1.choose_spec h9.1 h11 (fun z hz => (h12 z (sub z hz)).2) h14) h3 (Ins.self E)
    (g := mkF x.m pc Ls st) rfl (hLs.trans B.2.2.2.1.symm) w4 (argsL := argsL) (rest := rest) (lenOf hp hl2) hst (by show 2 * 0 + _ ≤ _; omega) (hb B.2.2.1 hd) (fun vm₁ _ => ⟨rfl, h3, by show cells + _ ≤ _; omega, by show slots + _ ≤ _; omega⟩)
  obtain ⟨h', sn, r1, r2, r3⟩ := Hr.after (rm := rm) (sf' := sf') (Q := Q) B X k sub X' hS hgr hp' hsteps
  exact ⟨v, h', sn, r1, r2, r3⟩
end Layer5
end Jvm.Pilot.@@N@@
namespace Jvm.Pilot.@@N@@
open Jvm Jvm.ClassFile Sem Op Lib Bundle Jvm.Free Jvm.Stand Jvm.LawKit Jvm.RoadKit
section Layer6
variable {x : Cx} {b : Bx} {Z : State} {EL : List (String × Nat)} {K S : Nat} {h h' : Heap} {sf : List Addr} {pc pc' : Nat} {Ls Ls' : Array Slot} {st st' : List Value} {a0 : Array Value}
/-- ldc of a String constant of which nothing is asked -/
theorem Hr.ldcO {index n : Nat} {text : String} (H : Hr x b Z EL K S h sf pc Ls st) (w : (Jvm.Cond.stringLink b.y.cls index text).before a0 Z = true) (wS : ∀ d ∈ Bundle.stringAtoms, d.before a0 Z = true) (hEL : EW Z a0 EL)
    (hd : decode b.bytes pc = .ok (.ldc index, 2)) (hn : 4 * text.toList.length ≤ n) (hbig : n ≤ 536870912) (hnar : x.nar = false) (hc : K + 2 ≤ b.R.cells := by decide) (hl' : S + (n + 4) ≤ b.R.slots := by decide) (hpc : pc + 2 = pc' := by rfl) :
    ∃ (a : Addr) (h' : Heap), Ext h h' ∧ Hr x b Z EL (K + 2) (S + (n + 4)) h' sf pc' Ls (.ref a :: st) := by
  subst hpc
  obtain ⟨B, T, locs, cells, slots, vm0, k0, ⟨X, h1, h2, h3, h4, h5, h6, h7, h8, h9, h10, h11, h12, h13, h14⟩, k⟩ := H
  obtain ⟨a, T', h', k1, X', e', E, hS, hk, hW, hf, hC, -, st1⟩ := ldcOH X B.2.1 h7 h8 w wS h3 h5 h6 hEL h9.1 (g := mkF x.m pc Ls st) rfl (hb B.2.2.1 hd) hn hbig (by omega) (by omega)
  have hm : ∀ y ∈ sf, Mine x Z EL T'.vm h' y := fun y hy => by
    obtain ⟨y1, y2, y3, y4⟩ := h12 y hy
    exact ⟨y1, y2, Nat.lt_of_lt_of_le y3 E.1, hC.safe y3 y4⟩
  refine ⟨a, h', E, B, T', locs, _, _, T'.vm, k1, ⟨X', by omega, by omega, e', h4, hS, hk, hW, hf, h9.trans hC, h10.ext E, Ext.tr h11 E, hm, fun hn => ?_, fun hk => ?_⟩, fun t q => k t (st1 t q)⟩
  · rw [hnar] at hn; cases hn
  · have hal : vm0.Alike T'.vm := h7.alike.symm.trans hW.alike
    exact ⟨Vm.MethodsKnown.alikeC hal (h14 hk).1, Vm.FramesKnown.alikeC hal (h14 hk).2⟩
end Layer6
end Jvm.Pilot.@@N@@
namespace Jvm.Pilot.@@N@@
open Jvm Jvm.ClassFile Sem Op Lib Bundle Jvm.Free Jvm.Stand Jvm.LawKit Jvm.RoadKit Jvm.Pilot.@@N@@.Jvm.D
theorem w0 {a0 : Array Value} {Z : State} (hw : ∀ d ∈ tables_1, d.before a0 Z = true) : ((Jvm.Cond.arrayClass Jvm.ClassFile.FieldType.char) : Jvm.Cond).before a0 Z = true := hw _ (List.mem_of_getElem? (i := 0) rfl)
theorem w1 {a0 : Array Value} {Z : State} (hw : ∀ d ∈ tables_1, d.before a0 Z = true) : ((Jvm.Cond.methodLink "com/example/lavoro/lavoro/NamesCheckPinLaw" (21 : Nat) ({ cls := "com/example/lavoro/lavoro/NamesCheckPinLaw", name := "draw", desc := "(I)C" } : Jvm.MethodName)) : Jvm.Cond).before a0 Z = true := hw _ (List.mem_of_getElem? (i := 1) rfl)
theorem w2 {a0 : Array Value} {Z : State} (hw : ∀ d ∈ tables_1, d.before a0 Z = true) : ((Jvm.Cond.static ({ cls := "com/example/lavoro/lavoro/NamesCheckPinLaw", name := "draw", desc := "(I)C" } : Jvm.MethodName)) : Jvm.Cond).before a0 Z = true := hw _ (List.mem_of_getElem? (i := 2) rfl)
theorem w3 {a0 : Array Value} {Z : State} (hw : ∀ d ∈ tables_1, d.before a0 Z = true) : ((Jvm.Cond.initialized "com/example/lavoro/lavoro/NamesCheckPinLaw") : Jvm.Cond).before a0 Z = true := hw _ (List.mem_of_getElem? (i := 3) rfl)
theorem w4 {a0 : Array Value} {Z : State} (hw : ∀ d ∈ tables_1, d.before a0 Z = true) : ((Jvm.Cond.code ({ cls := "com/example/lavoro/lavoro/NamesCheckPinLaw", name := "draw", desc := "(I)C" } : Jvm.MethodName) method_2_code (3 : Nat) (Option.some Jvm.ClassFile.FieldType.char)) : Jvm.Cond).before a0 Z = true := hw _ (List.mem_of_getElem? (i := 4) rfl)
theorem w5 {a0 : Array Value} {Z : State} (hw : ∀ d ∈ tables_1, d.before a0 Z = true) : ((Jvm.Cond.constant "com/example/lavoro/lavoro/NamesCheckPinLaw" (7 : Nat) (55296 : Int32)) : Jvm.Cond).before a0 Z = true := hw _ (List.mem_of_getElem? (i := 5) rfl)
theorem w6 {a0 : Array Value} {Z : State} (hw : ∀ d ∈ tables_1, d.before a0 Z = true) : ((Jvm.Cond.methodLink "com/example/lavoro/lavoro/NamesCheckPinLaw" (29 : Nat) ({ cls := "java/lang/Math", name := "max", desc := "(II)I" } : Jvm.MethodName)) : Jvm.Cond).before a0 Z = true := hw _ (List.mem_of_getElem? (i := 6) rfl)
theorem w7 {a0 : Array Value} {Z : State} (hw : ∀ d ∈ tables_1, d.before a0 Z = true) : ((Jvm.Cond.static ({ cls := "java/lang/Math", name := "max", desc := "(II)I" } : Jvm.MethodName)) : Jvm.Cond).before a0 Z = true := hw _ (List.mem_of_getElem? (i := 7) rfl)
theorem w8 {a0 : Array Value} {Z : State} (hw : ∀ d ∈ tables_1, d.before a0 Z = true) : ((Jvm.Cond.initialized "java/lang/Math") : Jvm.Cond).before a0 Z = true := hw _ (List.mem_of_getElem? (i := 8) rfl)
theorem w9 {a0 : Array Value} {Z : State} (hw : ∀ d ∈ tables_1, d.before a0 Z = true) : ((Jvm.Cond.code ({ cls := "java/lang/Math", name := "max", desc := "(II)I" } : Jvm.MethodName) jdk_29_method_65_code (2 : Nat) (Option.some Jvm.ClassFile.FieldType.int)) : Jvm.Cond).before a0 Z = true := hw _ (List.mem_of_getElem? (i := 9) rfl)
theorem w10 {a0 : Array Value} {Z : State} (hw : ∀ d ∈ tables_1, d.before a0 Z = true) : ((Jvm.Cond.classLink "com/example/lavoro/lavoro/NamesCheckPinLaw" (35 : Nat) "java/lang/String") : Jvm.Cond).before a0 Z = true := hw _ (List.mem_of_getElem? (i := 10) rfl)
theorem w11 {a0 : Array Value} {Z : State} (hw : ∀ d ∈ tables_1, d.before a0 Z = true) : ((Jvm.Cond.instantiable "java/lang/String" (4 : Nat)) : Jvm.Cond).before a0 Z = true := hw _ (List.mem_of_getElem? (i := 11) rfl)
theorem w12 {a0 : Array Value} {Z : State} (hw : ∀ d ∈ tables_1, d.before a0 Z = true) : ((Jvm.Cond.initialized "java/lang/String") : Jvm.Cond).before a0 Z = true := hw _ (List.mem_of_getElem? (i := 12) rfl)
theorem w13 {a0 : Array Value} {Z : State} (hw : ∀ d ∈ tables_1, d.before a0 Z = true) : ((Jvm.Cond.methodLink "com/example/lavoro/lavoro/NamesCheckPinLaw" (37 : Nat) ({ cls := "java/lang/String", name := "<init>", desc := "([C)V" } : Jvm.MethodName)) : Jvm.Cond).before a0 Z = true := hw _ (List.mem_of_getElem? (i := 13) rfl)
theorem w14 {a0 : Array Value} {Z : State} (hw : ∀ d ∈ tables_1, d.before a0 Z = true) : ((Jvm.Cond.instanceMethod ({ cls := "java/lang/String", name := "<init>", desc := "([C)V" } : Jvm.MethodName)) : Jvm.Cond).before a0 Z = true := hw _ (List.mem_of_getElem? (i := 14) rfl)
theorem w15 {a0 : Array Value} {Z : State} (hw : ∀ d ∈ tables_1, d.before a0 Z = true) : ((Jvm.Cond.code ({ cls := "java/lang/String", name := "<init>", desc := "([C)V" } : Jvm.MethodName) jdk_42_method_3_code (2 : Nat) (Option.none : Option Jvm.ClassFile.FieldType)) : Jvm.Cond).before a0 Z = true := hw _ (List.mem_of_getElem? (i := 15) rfl)
theorem w16 {a0 : Array Value} {Z : State} (hw : ∀ d ∈ tables_1, d.before a0 Z = true) : ((Jvm.Cond.methodLink "java/lang/String" (27 : Nat) ({ cls := "java/lang/String", name := "<init>", desc := "([CIILjava/lang/Void;)V" } : Jvm.MethodName)) : Jvm.Cond).before a0 Z = true := hw _ (List.mem_of_getElem? (i := 16) rfl)
theorem w17 {a0 : Array Value} {Z : State} (hw : ∀ d ∈ tables_1, d.before a0 Z = true) : ((Jvm.Cond.instanceMethod ({ cls := "java/lang/String", name := "<init>", desc := "([CIILjava/lang/Void;)V" } : Jvm.MethodName)) : Jvm.Cond).before a0 Z = true := hw _ (List.mem_of_getElem? (i := 17) rfl)
theorem w19 {a0 : Array Value} {Z : State} (hw : ∀ d ∈ tables_1, d.before a0 Z = true) : ((Jvm.Cond.code ({ cls := "java/lang/String", name := "<init>", desc := "([CIILjava/lang/Void;)V" } : Jvm.MethodName) jdk_42_method_149_code (6 : Nat) (Option.none : Option Jvm.ClassFile.FieldType)) : Jvm.Cond).before a0 Z = true := hw _ (List.mem_of_getElem? (i := 19) rfl)
theorem w20 {a0 : Array Value} {Z : State} (hw : ∀ d ∈ tables_1, d.before a0 Z = true) : ((Jvm.Cond.methodLink "java/lang/String" (1 : Nat) ({ cls := "java/lang/Object", name := "<init>", desc := "()V" } : Jvm.MethodName)) : Jvm.Cond).before a0 Z = true := hw _ (List.mem_of_getElem? (i := 20) rfl)
theorem w21 {a0 : Array Value} {Z : State} (hw : ∀ d ∈ tables_1, d.before a0 Z = true) : ((Jvm.Cond.instanceMethod ({ cls := "java/lang/Object", name := "<init>", desc := "()V" } : Jvm.MethodName)) : Jvm.Cond).before a0 Z = true := hw _ (List.mem_of_getElem? (i := 21) rfl)
theorem w22 {a0 : Array Value} {Z : State} (hw : ∀ d ∈ tables_1, d.before a0 Z = true) : ((Jvm.Cond.code ({ cls := "java/lang/Object", name := "<init>", desc := "()V" } : Jvm.MethodName) object_method_1_code (1 : Nat) (Option.none : Option Jvm.ClassFile.FieldType)) : Jvm.Cond).before a0 Z = true := hw _ (List.mem_of_getElem? (i := 22) rfl)
theorem w23 {a0 : Array Value} {Z : State} (hw : ∀ d ∈ tables_1, d.before a0 Z = true) : ((Jvm.Cond.fieldLink "java/lang/String" (38 : Nat) "java/lang/String" "COMPACT_STRINGS" "Z") : Jvm.Cond).before a0 Z = true := hw _ (List.mem_of_getElem? (i := 23) rfl)
theorem w24 {a0 : Array Value} {Z : State} (hw : ∀ d ∈ tables_1, d.before a0 Z = true) : ((Jvm.Cond.methodLink "java/lang/String" (177 : Nat) ({ cls := "java/lang/StringUTF16", name := "compress", desc := "([CII)[B" } : Jvm.MethodName)) : Jvm.Cond).before a0 Z = true := hw _ (List.mem_of_getElem? (i := 24) rfl)
theorem w25 {a0 : Array Value} {Z : State} (hw : ∀ d ∈ tables_1, d.before a0 Z = true) : ((Jvm.Cond.static ({ cls := "java/lang/StringUTF16", name := "compress", desc := "([CII)[B" } : Jvm.MethodName)) : Jvm.Cond).before a0 Z = true := hw _ (List.mem_of_getElem? (i := 25) rfl)
theorem w26 {a0 : Array Value} {Z : State} (hw : ∀ d ∈ tables_1, d.before a0 Z = true) : ((Jvm.Cond.initialized "java/lang/StringUTF16") : Jvm.Cond).before a0 Z = true := hw _ (List.mem_of_getElem? (i := 26) rfl)
theorem w27 {a0 : Array Value} {Z : State} (hw : ∀ d ∈ tables_1, d.before a0 Z = true) : ((Jvm.Cond.code ({ cls := "java/lang/StringUTF16", name := "compress", desc := "([CII)[B" } : Jvm.MethodName) jdk_52_method_16_code (6 : Nat) (Option.some (Jvm.ClassFile.FieldType.array Jvm.ClassFile.FieldType.byte))) : Jvm.Cond).before a0 Z = true := hw _ (List.mem_of_getElem? (i := 27) rfl)
theorem w28 {a0 : Array Value} {Z : State} (hw : ∀ d ∈ tables_1, d.before a0 Z = true) : ((Jvm.Cond.arrayClass Jvm.ClassFile.FieldType.byte) : Jvm.Cond).before a0 Z = true := hw _ (List.mem_of_getElem? (i := 28) rfl)
theorem w29 {a0 : Array Value} {Z : State} (hw : ∀ d ∈ tables_1, d.before a0 Z = true) : ((Jvm.Cond.methodLink "java/lang/StringUTF16" (115 : Nat) ({ cls := "java/lang/StringUTF16", name := "compress", desc := "([CI[BII)I" } : Jvm.MethodName)) : Jvm.Cond).before a0 Z = true := hw _ (List.mem_of_getElem? (i := 29) rfl)
theorem w30 {a0 : Array Value} {Z : State} (hw : ∀ d ∈ tables_1, d.before a0 Z = true) : ((Jvm.Cond.static ({ cls := "java/lang/StringUTF16", name := "compress", desc := "([CI[BII)I" } : Jvm.MethodName)) : Jvm.Cond).before a0 Z = true := hw _ (List.mem_of_getElem? (i := 30) rfl)
theorem w31 {a0 : Array Value} {Z : State} (hw : ∀ d ∈ tables_1, d.before a0 Z = true) : ((Jvm.Cond.code ({ cls := "java/lang/StringUTF16", name := "compress", desc := "([CI[BII)I" } : Jvm.MethodName) jdk_52_method_21_code (7 : Nat) (Option.some Jvm.ClassFile.FieldType.int)) : Jvm.Cond).before a0 Z = true := hw _ (List.mem_of_getElem? (i := 31) rfl)
theorem w32 {a0 : Array Value} {Z : State} (hw : ∀ d ∈ tables_1, d.before a0 Z = true) : ((Jvm.Cond.methodLink "java/lang/StringUTF16" (119 : Nat) ({ cls := "java/lang/StringUTF16", name := "toBytes", desc := "([CII)[B" } : Jvm.MethodName)) : Jvm.Cond).before a0 Z = true := hw _ (List.mem_of_getElem? (i := 32) rfl)
theorem w33 {a0 : Array Value} {Z : State} (hw : ∀ d ∈ tables_1, d.before a0 Z = true) : ((Jvm.Cond.static ({ cls := "java/lang/StringUTF16", name := "toBytes", desc := "([CII)[B" } : Jvm.MethodName)) : Jvm.Cond).before a0 Z = true := hw _ (List.mem_of_getElem? (i := 33) rfl)
theorem w34 {a0 : Array Value} {Z : State} (hw : ∀ d ∈ tables_1, d.before a0 Z = true) : ((Jvm.Cond.code ({ cls := "java/lang/StringUTF16", name := "toBytes", desc := "([CII)[B" } : Jvm.MethodName) jdk_52_method_14_code (5 : Nat) (Option.some (Jvm.ClassFile.FieldType.array Jvm.ClassFile.FieldType.byte))) : Jvm.Cond).before a0 Z = true := hw _ (List.mem_of_getElem? (i := 34) rfl)
theorem w35 {a0 : Array Value} {Z : State} (hw : ∀ d ∈ tables_1, d.before a0 Z = true) : ((Jvm.Cond.methodLink "java/lang/StringUTF16" (107 : Nat) ({ cls := "java/lang/StringUTF16", name := "newBytesFor", desc := "(I)[B" } : Jvm.MethodName)) : Jvm.Cond).before a0 Z = true := hw _ (List.mem_of_getElem? (i := 35) rfl)
theorem w36 {a0 : Array Value} {Z : State} (hw : ∀ d ∈ tables_1, d.before a0 Z = true) : ((Jvm.Cond.static ({ cls := "java/lang/StringUTF16", name := "newBytesFor", desc := "(I)[B" } : Jvm.MethodName)) : Jvm.Cond).before a0 Z = true := hw _ (List.mem_of_getElem? (i := 36) rfl)
theorem w37 {a0 : Array Value} {Z : State} (hw : ∀ d ∈ tables_1, d.before a0 Z = true) : ((Jvm.Cond.code ({ cls := "java/lang/StringUTF16", name := "newBytesFor", desc := "(I)[B" } : Jvm.MethodName) jdk_52_method_2_code (1 : Nat) (Option.some (Jvm.ClassFile.FieldType.array Jvm.ClassFile.FieldType.byte))) : Jvm.Cond).before a0 Z = true := hw _ (List.mem_of_getElem? (i := 37) rfl)
theorem w38 {a0 : Array Value} {Z : State} (hw : ∀ d ∈ tables_1, d.before a0 Z = true) : ((Jvm.Cond.methodLink "java/lang/StringUTF16" (11 : Nat) ({ cls := "java/lang/StringUTF16", name := "newBytesLength", desc := "(I)I" } : Jvm.MethodName)) : Jvm.Cond).before a0 Z = true := hw _ (List.mem_of_getElem? (i := 38) rfl)
theorem w39 {a0 : Array Value} {Z : State} (hw : ∀ d ∈ tables_1, d.before a0 Z = true) : ((Jvm.Cond.static ({ cls := "java/lang/StringUTF16", name := "newBytesLength", desc := "(I)I" } : Jvm.MethodName)) : Jvm.Cond).before a0 Z = true := hw _ (List.mem_of_getElem? (i := 39) rfl)
theorem w40 {a0 : Array Value} {Z : State} (hw : ∀ d ∈ tables_1, d.before a0 Z = true) : ((Jvm.Cond.code ({ cls := "java/lang/StringUTF16", name := "newBytesLength", desc := "(I)I" } : Jvm.MethodName) jdk_52_method_3_code (1 : Nat) (Option.some Jvm.ClassFile.FieldType.int)) : Jvm.Cond).before a0 Z = true := hw _ (List.mem_of_getElem? (i := 40) rfl)
theorem w41 {a0 : Array Value} {Z : State} (hw : ∀ d ∈ tables_1, d.before a0 Z = true) : ((Jvm.Cond.constant "java/lang/StringUTF16" (20 : Nat) (1073741823 : Int32)) : Jvm.Cond).before a0 Z = true := hw _ (List.mem_of_getElem? (i := 41) rfl)
theorem w42 {a0 : Array Value} {Z : State} (hw : ∀ d ∈ tables_1, d.before a0 Z = true) : ((Jvm.Cond.methodLink "java/lang/StringUTF16" (111 : Nat) ({ cls := "java/lang/StringUTF16", name := "putChar", desc := "([BII)V" } : Jvm.MethodName)) : Jvm.Cond).before a0 Z = true := hw _ (List.mem_of_getElem? (i := 42) rfl)
theorem w43 {a0 : Array Value} {Z : State} (hw : ∀ d ∈ tables_1, d.before a0 Z = true) : ((Jvm.Cond.static ({ cls := "java/lang/StringUTF16", name := "putChar", desc := "([BII)V" } : Jvm.MethodName)) : Jvm.Cond).before a0 Z = true := hw _ (List.mem_of_getElem? (i := 43) rfl)
theorem w44 {a0 : Array Value} {Z : State} (hw : ∀ d ∈ tables_1, d.before a0 Z = true) : ((Jvm.Cond.code ({ cls := "java/lang/StringUTF16", name := "putChar", desc := "([BII)V" } : Jvm.MethodName) jdk_52_method_4_code (3 : Nat) (Option.none : Option Jvm.ClassFile.FieldType)) : Jvm.Cond).before a0 Z = true := hw _ (List.mem_of_getElem? (i := 44) rfl)
theorem w45 {a0 : Array Value} {Z : State} (hw : ∀ d ∈ tables_1, d.before a0 Z = true) : ((Jvm.Cond.fieldLink "java/lang/StringUTF16" (44 : Nat) "java/lang/StringUTF16" "$assertionsDisabled" "Z") : Jvm.Cond).before a0 Z = true := hw _ (List.mem_of_getElem? (i := 45) rfl)
theorem w46 {a0 : Array Value} {Z : State} (hw : ∀ d ∈ tables_1, d.before a0 Z = true) : ((Jvm.Cond.fieldLink "java/lang/StringUTF16" (59 : Nat) "java/lang/StringUTF16" "HI_BYTE_SHIFT" "I") : Jvm.Cond).before a0 Z = true := hw _ (List.mem_of_getElem? (i := 46) rfl)
theorem w47 {a0 : Array Value} {Z : State} (hw : ∀ d ∈ tables_1, d.before a0 Z = true) : ((Jvm.Cond.fieldLink "java/lang/StringUTF16" (63 : Nat) "java/lang/StringUTF16" "LO_BYTE_SHIFT" "I") : Jvm.Cond).before a0 Z = true := hw _ (List.mem_of_getElem? (i := 47) rfl)
theorem w48 {a0 : Array Value} {Z : State} (hw : ∀ d ∈ tables_1, d.before a0 Z = true) : ((Jvm.Cond.methodLink "java/lang/StringUTF16" (71 : Nat) ({ cls := "java/lang/StringUTF16", name := "getChar", desc := "([BI)C" } : Jvm.MethodName)) : Jvm.Cond).before a0 Z = true := hw _ (List.mem_of_getElem? (i := 48) rfl)
theorem w49 {a0 : Array Value} {Z : State} (hw : ∀ d ∈ tables_1, d.before a0 Z = true) : ((Jvm.Cond.static ({ cls := "java/lang/StringUTF16", name := "getChar", desc := "([BI)C" } : Jvm.MethodName)) : Jvm.Cond).before a0 Z = true := hw _ (List.mem_of_getElem? (i := 49) rfl)
theorem w50 {a0 : Array Value} {Z : State} (hw : ∀ d ∈ tables_1, d.before a0 Z = true) : ((Jvm.Cond.code ({ cls := "java/lang/StringUTF16", name := "getChar", desc := "([BI)C" } : Jvm.MethodName) jdk_52_method_5_code (2 : Nat) (Option.some Jvm.ClassFile.FieldType.char)) : Jvm.Cond).before a0 Z = true := hw _ (List.mem_of_getElem? (i := 50) rfl)
theorem w51 {a0 : Array Value} {Z : State} (hw : ∀ d ∈ tables_1, d.before a0 Z = true) : ((Jvm.Cond.methodLink "java/lang/String" (47 : Nat) ({ cls := "java/lang/StringUTF16", name := "coderFromArrayLen", desc := "([BI)B" } : Jvm.MethodName)) : Jvm.Cond).before a0 Z = true := hw _ (List.mem_of_getElem? (i := 51) rfl)
theorem w52 {a0 : Array Value} {Z : State} (hw : ∀ d ∈ tables_1, d.before a0 Z = true) : ((Jvm.Cond.static ({ cls := "java/lang/StringUTF16", name := "coderFromArrayLen", desc := "([BI)B" } : Jvm.MethodName)) : Jvm.Cond).before a0 Z = true := hw _ (List.mem_of_getElem? (i := 52) rfl)
theorem w53 {a0 : Array Value} {Z : State} (hw : ∀ d ∈ tables_1, d.before a0 Z = true) : ((Jvm.Cond.code ({ cls := "java/lang/StringUTF16", name := "coderFromArrayLen", desc := "([BI)B" } : Jvm.MethodName) jdk_52_method_15_code (2 : Nat) (Option.some Jvm.ClassFile.FieldType.byte)) : Jvm.Cond).before a0 Z = true := hw _ (List.mem_of_getElem? (i := 53) rfl)
theorem w54 {a0 : Array Value} {Z : State} (hw : ∀ d ∈ tables_1, d.before a0 Z = true) : ((Jvm.Cond.fieldLink "java/lang/String" (15 : Nat) "java/lang/String" "coder" "B") : Jvm.Cond).before a0 Z = true := hw _ (List.mem_of_getElem? (i := 54) rfl)
theorem w55 {a0 : Array Value} {Z : State} (hw : ∀ d ∈ tables_1, d.before a0 Z = true) : ((Jvm.Cond.laysFinal "java/lang/String" "java/lang/String" "coder" "B") : Jvm.Cond).before a0 Z = true := hw _ (List.mem_of_getElem? (i := 55) rfl)
theorem w56 {a0 : Array Value} {Z : State} (hw : ∀ d ∈ tables_1, d.before a0 Z = true) : ((Jvm.Cond.fieldLink "java/lang/String" (9 : Nat) "java/lang/String" "value" "[B") : Jvm.Cond).before a0 Z = true := hw _ (List.mem_of_getElem? (i := 56) rfl)
theorem w57 {a0 : Array Value} {Z : State} (hw : ∀ d ∈ tables_1, d.before a0 Z = true) : ((Jvm.Cond.laysFinal "java/lang/String" "java/lang/String" "value" "[B") : Jvm.Cond).before a0 Z = true := hw _ (List.mem_of_getElem? (i := 57) rfl)
theorem w58 {a0 : Array Value} {Z : State} (hw : ∀ d ∈ tables_1, d.before a0 Z = true) : ((Jvm.Cond.stringLink "com/example/lavoro/lavoro/NamesCheckPinLaw" (40 : Nat) "name") : Jvm.Cond).before a0 Z = true := hw _ (List.mem_of_getElem? (i := 58) rfl)
theorem w59 {a0 : Array Value} {Z : State} (hw : ∀ d ∈ tables_1, d.before a0 Z = true) : ((Jvm.Cond.soleField "java/lang/String" "value") : Jvm.Cond).before a0 Z = true := hw _ (List.mem_of_getElem? (i := 59) rfl)
theorem w60 {a0 : Array Value} {Z : State} (hw : ∀ d ∈ tables_1, d.before a0 Z = true) : ((Jvm.Cond.soleField "java/lang/String" "coder") : Jvm.Cond).before a0 Z = true := hw _ (List.mem_of_getElem? (i := 60) rfl)
theorem w61 {a0 : Array Value} {Z : State} (hw : ∀ d ∈ tables_1, d.before a0 Z = true) : ((Jvm.Cond.methodLink "com/example/lavoro/lavoro/NamesCheckPinLaw" (42 : Nat) ({ cls := "com/example/lavoro/lavoro/Names", name := "check", desc := "(Ljava/lang/String;Ljava/lang/String;I)Ljava/lang/String;" } : Jvm.MethodName)) : Jvm.Cond).before a0 Z = true := hw _ (List.mem_of_getElem? (i := 61) rfl)
theorem w62 {a0 : Array Value} {Z : State} (hw : ∀ d ∈ tables_1, d.before a0 Z = true) : ((Jvm.Cond.static ({ cls := "com/example/lavoro/lavoro/Names", name := "check", desc := "(Ljava/lang/String;Ljava/lang/String;I)Ljava/lang/String;" } : Jvm.MethodName)) : Jvm.Cond).before a0 Z = true := hw _ (List.mem_of_getElem? (i := 62) rfl)
theorem w63 {a0 : Array Value} {Z : State} (hw : ∀ d ∈ tables_1, d.before a0 Z = true) : ((Jvm.Cond.initialized "com/example/lavoro/lavoro/Names") : Jvm.Cond).before a0 Z = true := hw _ (List.mem_of_getElem? (i := 63) rfl)
theorem w64 {a0 : Array Value} {Z : State} (hw : ∀ d ∈ tables_1, d.before a0 Z = true) : ((Jvm.Cond.code ({ cls := "com/example/lavoro/lavoro/Names", name := "check", desc := "(Ljava/lang/String;Ljava/lang/String;I)Ljava/lang/String;" } : Jvm.MethodName) prog_16_method_2_code (4 : Nat) (Option.some (Jvm.ClassFile.FieldType.object "java/lang/String"))) : Jvm.Cond).before a0 Z = true := hw _ (List.mem_of_getElem? (i := 64) rfl)
theorem w65 {a0 : Array Value} {Z : State} (hw : ∀ d ∈ tables_1, d.before a0 Z = true) : ((Jvm.Cond.methodLink "com/example/lavoro/lavoro/Names" (7 : Nat) ({ cls := "java/util/Objects", name := "requireNonNull", desc := "(Ljava/lang/Object;Ljava/lang/String;)Ljava/lang/Object;" } : Jvm.MethodName)) : Jvm.Cond).before a0 Z = true := hw _ (List.mem_of_getElem? (i := 65) rfl)
theorem w66 {a0 : Array Value} {Z : State} (hw : ∀ d ∈ tables_1, d.before a0 Z = true) : ((Jvm.Cond.static ({ cls := "java/util/Objects", name := "requireNonNull", desc := "(Ljava/lang/Object;Ljava/lang/String;)Ljava/lang/Object;" } : Jvm.MethodName)) : Jvm.Cond).before a0 Z = true := hw _ (List.mem_of_getElem? (i := 66) rfl)
theorem w67 {a0 : Array Value} {Z : State} (hw : ∀ d ∈ tables_1, d.before a0 Z = true) : ((Jvm.Cond.initialized "java/util/Objects") : Jvm.Cond).before a0 Z = true := hw _ (List.mem_of_getElem? (i := 67) rfl)
theorem w68 {a0 : Array Value} {Z : State} (hw : ∀ d ∈ tables_1, d.before a0 Z = true) : ((Jvm.Cond.code ({ cls := "java/util/Objects", name := "requireNonNull", desc := "(Ljava/lang/Object;Ljava/lang/String;)Ljava/lang/Object;" } : Jvm.MethodName) jdk_31_method_11_code (2 : Nat) (Option.some (Jvm.ClassFile.FieldType.object "java/lang/Object"))) : Jvm.Cond).before a0 Z = true := hw _ (List.mem_of_getElem? (i := 68) rfl)
theorem w69 {a0 : Array Value} {Z : State} (hw : ∀ d ∈ tables_1, d.before a0 Z = true) : ((Jvm.Cond.methodLink "com/example/lavoro/lavoro/Names" (13 : Nat) ({ cls := "java/lang/String", name := "length", desc := "()I" } : Jvm.MethodName)) : Jvm.Cond).before a0 Z = true := hw _ (List.mem_of_getElem? (i := 69) rfl)
theorem w70 {a0 : Array Value} {Z : State} (hw : ∀ d ∈ tables_1, d.before a0 Z = true) : ((Jvm.Cond.declares ({ cls := "java/lang/String", name := "length", desc := "()I" } : Jvm.MethodName)) : Jvm.Cond).before a0 Z = true := hw _ (List.mem_of_getElem? (i := 70) rfl)
theorem w71 {a0 : Array Value} {Z : State} (hw : ∀ d ∈ tables_1, d.before a0 Z = true) : ((Jvm.Cond.instanceMethod ({ cls := "java/lang/String", name := "length", desc := "()I" } : Jvm.MethodName)) : Jvm.Cond).before a0 Z = true := hw _ (List.mem_of_getElem? (i := 71) rfl)
theorem w72 {a0 : Array Value} {Z : State} (hw : ∀ d ∈ tables_1, d.before a0 Z = true) : ((Jvm.Cond.selects "java/lang/String" ({ cls := "java/lang/String", name := "length", desc := "()I" } : Jvm.MethodName) ({ cls := "java/lang/String", name := "length", desc := "()I" } : Jvm.MethodName)) : Jvm.Cond).before a0 Z = true := hw _ (List.mem_of_getElem? (i := 72) rfl)
theorem w73 {a0 : Array Value} {Z : State} (hw : ∀ d ∈ tables_1, d.before a0 Z = true) : ((Jvm.Cond.code ({ cls := "java/lang/String", name := "length", desc := "()I" } : Jvm.MethodName) jdk_42_method_54_code (1 : Nat) (Option.some Jvm.ClassFile.FieldType.int)) : Jvm.Cond).before a0 Z = true := hw _ (List.mem_of_getElem? (i := 73) rfl)
theorem w74 {a0 : Array Value} {Z : State} (hw : ∀ d ∈ tables_1, d.before a0 Z = true) : ((Jvm.Cond.methodLink "java/lang/String" (335 : Nat) ({ cls := "java/lang/String", name := "coder", desc := "()B" } : Jvm.MethodName)) : Jvm.Cond).before a0 Z = true := hw _ (List.mem_of_getElem? (i := 74) rfl)
theorem w75 {a0 : Array Value} {Z : State} (hw : ∀ d ∈ tables_1, d.before a0 Z = true) : ((Jvm.Cond.declares ({ cls := "java/lang/String", name := "coder", desc := "()B" } : Jvm.MethodName)) : Jvm.Cond).before a0 Z = true := hw _ (List.mem_of_getElem? (i := 75) rfl)
theorem w76 {a0 : Array Value} {Z : State} (hw : ∀ d ∈ tables_1, d.before a0 Z = true) : ((Jvm.Cond.instanceMethod ({ cls := "java/lang/String", name := "coder", desc := "()B" } : Jvm.MethodName)) : Jvm.Cond).before a0 Z = true := hw _ (List.mem_of_getElem? (i := 76) rfl)
theorem w77 {a0 : Array Value} {Z : State} (hw : ∀ d ∈ tables_1, d.before a0 Z = true) : ((Jvm.Cond.selects "java/lang/String" ({ cls := "java/lang/String", name := "coder", desc := "()B" } : Jvm.MethodName) ({ cls := "java/lang/String", name := "coder", desc := "()B" } : Jvm.MethodName)) : Jvm.Cond).before a0 Z = true := hw _ (List.mem_of_getElem? (i := 77) rfl)
theorem w78 {a0 : Array Value} {Z : State} (hw : ∀ d ∈ tables_1, d.before a0 Z = true) : ((Jvm.Cond.code ({ cls := "java/lang/String", name := "coder", desc := "()B" } : Jvm.MethodName) jdk_42_method_152_code (1 : Nat) (Option.some Jvm.ClassFile.FieldType.byte)) : Jvm.Cond).before a0 Z = true := hw _ (List.mem_of_getElem? (i := 78) rfl)
theorem w79 {a0 : Array Value} {Z : State} (hw : ∀ d ∈ tables_1, d.before a0 Z = true) : ((Jvm.Cond.methodLink "com/example/lavoro/lavoro/Names" (19 : Nat) ({ cls := "java/lang/String", name := "codePointCount", desc := "(II)I" } : Jvm.MethodName)) : Jvm.Cond).before a0 Z = true := hw _ (List.mem_of_getElem? (i := 79) rfl)
theorem w80 {a0 : Array Value} {Z : State} (hw : ∀ d ∈ tables_1, d.before a0 Z = true) : ((Jvm.Cond.declares ({ cls := "java/lang/String", name := "codePointCount", desc := "(II)I" } : Jvm.MethodName)) : Jvm.Cond).before a0 Z = true := hw _ (List.mem_of_getElem? (i := 80) rfl)
theorem w81 {a0 : Array Value} {Z : State} (hw : ∀ d ∈ tables_1, d.before a0 Z = true) : ((Jvm.Cond.instanceMethod ({ cls := "java/lang/String", name := "codePointCount", desc := "(II)I" } : Jvm.MethodName)) : Jvm.Cond).before a0 Z = true := hw _ (List.mem_of_getElem? (i := 81) rfl)
theorem w82 {a0 : Array Value} {Z : State} (hw : ∀ d ∈ tables_1, d.before a0 Z = true) : ((Jvm.Cond.selects "java/lang/String" ({ cls := "java/lang/String", name := "codePointCount", desc := "(II)I" } : Jvm.MethodName) ({ cls := "java/lang/String", name := "codePointCount", desc := "(II)I" } : Jvm.MethodName)) : Jvm.Cond).before a0 Z = true := hw _ (List.mem_of_getElem? (i := 82) rfl)
theorem w83 {a0 : Array Value} {Z : State} (hw : ∀ d ∈ tables_1, d.before a0 Z = true) : ((Jvm.Cond.code ({ cls := "java/lang/String", name := "codePointCount", desc := "(II)I" } : Jvm.MethodName) jdk_42_method_59_code (3 : Nat) (Option.some Jvm.ClassFile.FieldType.int)) : Jvm.Cond).before a0 Z = true := hw _ (List.mem_of_getElem? (i := 83) rfl)
theorem w84 {a0 : Array Value} {Z : State} (hw : ∀ d ∈ tables_1, d.before a0 Z = true) : ((Jvm.Cond.methodLink "java/lang/String" (505 : Nat) ({ cls := "java/lang/String", name := "length", desc := "()I" } : Jvm.MethodName)) : Jvm.Cond).before a0 Z = true := hw _ (List.mem_of_getElem? (i := 84) rfl)
theorem w85 {a0 : Array Value} {Z : State} (hw : ∀ d ∈ tables_1, d.before a0 Z = true) : ((Jvm.Cond.methodLink "java/lang/String" (511 : Nat) ({ cls := "java/util/Objects", name := "checkFromToIndex", desc := "(III)I" } : Jvm.MethodName)) : Jvm.Cond).before a0 Z = true := hw _ (List.mem_of_getElem? (i := 85) rfl)
theorem w86 {a0 : Array Value} {Z : State} (hw : ∀ d ∈ tables_1, d.before a0 Z = true) : ((Jvm.Cond.static ({ cls := "java/util/Objects", name := "checkFromToIndex", desc := "(III)I" } : Jvm.MethodName)) : Jvm.Cond).before a0 Z = true := hw _ (List.mem_of_getElem? (i := 86) rfl)
theorem w87 {a0 : Array Value} {Z : State} (hw : ∀ d ∈ tables_1, d.before a0 Z = true) : ((Jvm.Cond.code ({ cls := "java/util/Objects", name := "checkFromToIndex", desc := "(III)I" } : Jvm.MethodName) jdk_31_method_18_code (3 : Nat) (Option.some Jvm.ClassFile.FieldType.int)) : Jvm.Cond).before a0 Z = true := hw _ (List.mem_of_getElem? (i := 87) rfl)
theorem w88 {a0 : Array Value} {Z : State} (hw : ∀ d ∈ tables_1, d.before a0 Z = true) : ((Jvm.Cond.methodLink "java/util/Objects" (111 : Nat) ({ cls := "jdk/internal/util/Preconditions", name := "checkFromToIndex", desc := "(IIILjava/util/function/BiFunction;)I" } : Jvm.MethodName)) : Jvm.Cond).before a0 Z = true := hw _ (List.mem_of_getElem? (i := 88) rfl)
theorem w89 {a0 : Array Value} {Z : State} (hw : ∀ d ∈ tables_1, d.before a0 Z = true) : ((Jvm.Cond.static ({ cls := "jdk/internal/util/Preconditions", name := "checkFromToIndex", desc := "(IIILjava/util/function/BiFunction;)I" } : Jvm.MethodName)) : Jvm.Cond).before a0 Z = true := hw _ (List.mem_of_getElem? (i := 89) rfl)
theorem w90 {a0 : Array Value} {Z : State} (hw : ∀ d ∈ tables_1, d.before a0 Z = true) : ((Jvm.Cond.initialized "jdk/internal/util/Preconditions") : Jvm.Cond).before a0 Z = true := hw _ (List.mem_of_getElem? (i := 90) rfl)
theorem w91 {a0 : Array Value} {Z : State} (hw : ∀ d ∈ tables_1, d.before a0 Z = true) : ((Jvm.Cond.code ({ cls := "jdk/internal/util/Preconditions", name := "checkFromToIndex", desc := "(IIILjava/util/function/BiFunction;)I" } : Jvm.MethodName) jdk_41_method_12_code (4 : Nat) (Option.some Jvm.ClassFile.FieldType.int)) : Jvm.Cond).before a0 Z = true := hw _ (List.mem_of_getElem? (i := 91) rfl)
theorem w92 {a0 : Array Value} {Z : State} (hw : ∀ d ∈ tables_1, d.before a0 Z = true) : ((Jvm.Cond.methodLink "java/lang/String" (492 : Nat) ({ cls := "java/lang/String", name := "isLatin1", desc := "()Z" } : Jvm.MethodName)) : Jvm.Cond).before a0 Z = true := hw _ (List.mem_of_getElem? (i := 92) rfl)
theorem w93 {a0 : Array Value} {Z : State} (hw : ∀ d ∈ tables_1, d.before a0 Z = true) : ((Jvm.Cond.declares ({ cls := "java/lang/String", name := "isLatin1", desc := "()Z" } : Jvm.MethodName)) : Jvm.Cond).before a0 Z = true := hw _ (List.mem_of_getElem? (i := 93) rfl)
theorem w94 {a0 : Array Value} {Z : State} (hw : ∀ d ∈ tables_1, d.before a0 Z = true) : ((Jvm.Cond.instanceMethod ({ cls := "java/lang/String", name := "isLatin1", desc := "()Z" } : Jvm.MethodName)) : Jvm.Cond).before a0 Z = true := hw _ (List.mem_of_getElem? (i := 94) rfl)
theorem w95 {a0 : Array Value} {Z : State} (hw : ∀ d ∈ tables_1, d.before a0 Z = true) : ((Jvm.Cond.selects "java/lang/String" ({ cls := "java/lang/String", name := "isLatin1", desc := "()Z" } : Jvm.MethodName) ({ cls := "java/lang/String", name := "isLatin1", desc := "()Z" } : Jvm.MethodName)) : Jvm.Cond).before a0 Z = true := hw _ (List.mem_of_getElem? (i := 95) rfl)
theorem w96 {a0 : Array Value} {Z : State} (hw : ∀ d ∈ tables_1, d.before a0 Z = true) : ((Jvm.Cond.code ({ cls := "java/lang/String", name := "isLatin1", desc := "()Z" } : Jvm.MethodName) jdk_42_method_154_code (1 : Nat) (Option.some Jvm.ClassFile.FieldType.boolean)) : Jvm.Cond).before a0 Z = true := hw _ (List.mem_of_getElem? (i := 96) rfl)
theorem w97 {a0 : Array Value} {Z : State} (hw : ∀ d ∈ tables_1, d.before a0 Z = true) : ((Jvm.Cond.methodLink "java/lang/String" (514 : Nat) ({ cls := "java/lang/StringUTF16", name := "codePointCount", desc := "([BII)I" } : Jvm.MethodName)) : Jvm.Cond).before a0 Z = true := hw _ (List.mem_of_getElem? (i := 97) rfl)
theorem w98 {a0 : Array Value} {Z : State} (hw : ∀ d ∈ tables_1, d.before a0 Z = true) : ((Jvm.Cond.static ({ cls := "java/lang/StringUTF16", name := "codePointCount", desc := "([BII)I" } : Jvm.MethodName)) : Jvm.Cond).before a0 Z = true := hw _ (List.mem_of_getElem? (i := 98) rfl)
theorem w99 {a0 : Array Value} {Z : State} (hw : ∀ d ∈ tables_1, d.before a0 Z = true) : ((Jvm.Cond.code ({ cls := "java/lang/StringUTF16", name := "codePointCount", desc := "([BII)I" } : Jvm.MethodName) jdk_52_method_12_code (3 : Nat) (Option.some Jvm.ClassFile.FieldType.int)) : Jvm.Cond).before a0 Z = true := hw _ (List.mem_of_getElem? (i := 99) rfl)
theorem w100 {a0 : Array Value} {Z : State} (hw : ∀ d ∈ tables_1, d.before a0 Z = true) : ((Jvm.Cond.methodLink "java/lang/StringUTF16" (100 : Nat) ({ cls := "java/lang/StringUTF16", name := "codePointCount", desc := "([BIIZ)I" } : Jvm.MethodName)) : Jvm.Cond).before a0 Z = true := hw _ (List.mem_of_getElem? (i := 100) rfl)
theorem w101 {a0 : Array Value} {Z : State} (hw : ∀ d ∈ tables_1, d.before a0 Z = true) : ((Jvm.Cond.static ({ cls := "java/lang/StringUTF16", name := "codePointCount", desc := "([BIIZ)I" } : Jvm.MethodName)) : Jvm.Cond).before a0 Z = true := hw _ (List.mem_of_getElem? (i := 101) rfl)
theorem w102 {a0 : Array Value} {Z : State} (hw : ∀ d ∈ tables_1, d.before a0 Z = true) : ((Jvm.Cond.code ({ cls := "java/lang/StringUTF16", name := "codePointCount", desc := "([BIIZ)I" } : Jvm.MethodName) jdk_52_method_11_code (6 : Nat) (Option.some Jvm.ClassFile.FieldType.int)) : Jvm.Cond).before a0 Z = true := hw _ (List.mem_of_getElem? (i := 102) rfl)
theorem w103 {a0 : Array Value} {Z : State} (hw : ∀ d ∈ tables_1, d.before a0 Z = true) : ((Jvm.Cond.methodLink "com/example/lavoro/lavoro/Names" (32 : Nat) ({ cls := "java/lang/String", name := "indexOf", desc := "(I)I" } : Jvm.MethodName)) : Jvm.Cond).before a0 Z = true := hw _ (List.mem_of_getElem? (i := 103) rfl)
theorem w104 {a0 : Array Value} {Z : State} (hw : ∀ d ∈ tables_1, d.before a0 Z = true) : ((Jvm.Cond.declares ({ cls := "java/lang/String", name := "indexOf", desc := "(I)I" } : Jvm.MethodName)) : Jvm.Cond).before a0 Z = true := hw _ (List.mem_of_getElem? (i := 104) rfl)
theorem w105 {a0 : Array Value} {Z : State} (hw : ∀ d ∈ tables_1, d.before a0 Z = true) : ((Jvm.Cond.instanceMethod ({ cls := "java/lang/String", name := "indexOf", desc := "(I)I" } : Jvm.MethodName)) : Jvm.Cond).before a0 Z = true := hw _ (List.mem_of_getElem? (i := 105) rfl)
theorem w106 {a0 : Array Value} {Z : State} (hw : ∀ d ∈ tables_1, d.before a0 Z = true) : ((Jvm.Cond.selects "java/lang/String" ({ cls := "java/lang/String", name := "indexOf", desc := "(I)I" } : Jvm.MethodName) ({ cls := "java/lang/String", name := "indexOf", desc := "(I)I" } : Jvm.MethodName)) : Jvm.Cond).before a0 Z = true := hw _ (List.mem_of_getElem? (i := 106) rfl)
theorem w107 {a0 : Array Value} {Z : State} (hw : ∀ d ∈ tables_1, d.before a0 Z = true) : ((Jvm.Cond.code ({ cls := "java/lang/String", name := "indexOf", desc := "(I)I" } : Jvm.MethodName) jdk_42_method_79_code (2 : Nat) (Option.some Jvm.ClassFile.FieldType.int)) : Jvm.Cond).before a0 Z = true := hw _ (List.mem_of_getElem? (i := 107) rfl)
theorem w108 {a0 : Array Value} {Z : State} (hw : ∀ d ∈ tables_1, d.before a0 Z = true) : ((Jvm.Cond.methodLink "java/lang/String" (633 : Nat) ({ cls := "java/lang/String", name := "indexOf", desc := "(II)I" } : Jvm.MethodName)) : Jvm.Cond).before a0 Z = true := hw _ (List.mem_of_getElem? (i := 108) rfl)
theorem w109 {a0 : Array Value} {Z : State} (hw : ∀ d ∈ tables_1, d.before a0 Z = true) : ((Jvm.Cond.declares ({ cls := "java/lang/String", name := "indexOf", desc := "(II)I" } : Jvm.MethodName)) : Jvm.Cond).before a0 Z = true := hw _ (List.mem_of_getElem? (i := 109) rfl)
theorem w110 {a0 : Array Value} {Z : State} (hw : ∀ d ∈ tables_1, d.before a0 Z = true) : ((Jvm.Cond.instanceMethod ({ cls := "java/lang/String", name := "indexOf", desc := "(II)I" } : Jvm.MethodName)) : Jvm.Cond).before a0 Z = true := hw _ (List.mem_of_getElem? (i := 110) rfl)
theorem w111 {a0 : Array Value} {Z : State} (hw : ∀ d ∈ tables_1, d.before a0 Z = true) : ((Jvm.Cond.selects "java/lang/String" ({ cls := "java/lang/String", name := "indexOf", desc := "(II)I" } : Jvm.MethodName) ({ cls := "java/lang/String", name := "indexOf", desc := "(II)I" } : Jvm.MethodName)) : Jvm.Cond).before a0 Z = true := hw _ (List.mem_of_getElem? (i := 111) rfl)
theorem w112 {a0 : Array Value} {Z : State} (hw : ∀ d ∈ tables_1, d.before a0 Z = true) : ((Jvm.Cond.code ({ cls := "java/lang/String", name := "indexOf", desc := "(II)I" } : Jvm.MethodName) jdk_42_method_80_code (3 : Nat) (Option.some Jvm.ClassFile.FieldType.int)) : Jvm.Cond).before a0 Z = true := hw _ (List.mem_of_getElem? (i := 112) rfl)
theorem w113 {a0 : Array Value} {Z : State} (hw : ∀ d ∈ tables_1, d.before a0 Z = true) : ((Jvm.Cond.methodLink "java/lang/String" (640 : Nat) ({ cls := "java/lang/StringUTF16", name := "indexOf", desc := "([BIII)I" } : Jvm.MethodName)) : Jvm.Cond).before a0 Z = true := hw _ (List.mem_of_getElem? (i := 113) rfl)
theorem w114 {a0 : Array Value} {Z : State} (hw : ∀ d ∈ tables_1, d.before a0 Z = true) : ((Jvm.Cond.static ({ cls := "java/lang/StringUTF16", name := "indexOf", desc := "([BIII)I" } : Jvm.MethodName)) : Jvm.Cond).before a0 Z = true := hw _ (List.mem_of_getElem? (i := 114) rfl)
theorem w115 {a0 : Array Value} {Z : State} (hw : ∀ d ∈ tables_1, d.before a0 Z = true) : ((Jvm.Cond.code ({ cls := "java/lang/StringUTF16", name := "indexOf", desc := "([BIII)I" } : Jvm.MethodName) jdk_52_method_40_code (4 : Nat) (Option.some Jvm.ClassFile.FieldType.int)) : Jvm.Cond).before a0 Z = true := hw _ (List.mem_of_getElem? (i := 115) rfl)
theorem w116 {a0 : Array Value} {Z : State} (hw : ∀ d ∈ tables_1, d.before a0 Z = true) : ((Jvm.Cond.methodLink "java/lang/StringUTF16" (224 : Nat) ({ cls := "java/lang/Math", name := "max", desc := "(II)I" } : Jvm.MethodName)) : Jvm.Cond).before a0 Z = true := hw _ (List.mem_of_getElem? (i := 116) rfl)
theorem w117 {a0 : Array Value} {Z : State} (hw : ∀ d ∈ tables_1, d.before a0 Z = true) : ((Jvm.Cond.methodLink "java/lang/StringUTF16" (183 : Nat) ({ cls := "java/lang/Math", name := "min", desc := "(II)I" } : Jvm.MethodName)) : Jvm.Cond).before a0 Z = true := hw _ (List.mem_of_getElem? (i := 117) rfl)
theorem w118 {a0 : Array Value} {Z : State} (hw : ∀ d ∈ tables_1, d.before a0 Z = true) : ((Jvm.Cond.static ({ cls := "java/lang/Math", name := "min", desc := "(II)I" } : Jvm.MethodName)) : Jvm.Cond).before a0 Z = true := hw _ (List.mem_of_getElem? (i := 118) rfl)
theorem w119 {a0 : Array Value} {Z : State} (hw : ∀ d ∈ tables_1, d.before a0 Z = true) : ((Jvm.Cond.code ({ cls := "java/lang/Math", name := "min", desc := "(II)I" } : Jvm.MethodName) jdk_29_method_69_code (2 : Nat) (Option.some Jvm.ClassFile.FieldType.int)) : Jvm.Cond).before a0 Z = true := hw _ (List.mem_of_getElem? (i := 119) rfl)
theorem w120 {a0 : Array Value} {Z : State} (hw : ∀ d ∈ tables_1, d.before a0 Z = true) : ((Jvm.Cond.constant "java/lang/StringUTF16" (227 : Nat) (65536 : Int32)) : Jvm.Cond).before a0 Z = true := hw _ (List.mem_of_getElem? (i := 120) rfl)
theorem w121 {a0 : Array Value} {Z : State} (hw : ∀ d ∈ tables_1, d.before a0 Z = true) : ((Jvm.Cond.methodLink "java/lang/StringUTF16" (228 : Nat) ({ cls := "java/lang/StringUTF16", name := "indexOfChar", desc := "([BIII)I" } : Jvm.MethodName)) : Jvm.Cond).before a0 Z = true := hw _ (List.mem_of_getElem? (i := 121) rfl)
theorem w122 {a0 : Array Value} {Z : State} (hw : ∀ d ∈ tables_1, d.before a0 Z = true) : ((Jvm.Cond.static ({ cls := "java/lang/StringUTF16", name := "indexOfChar", desc := "([BIII)I" } : Jvm.MethodName)) : Jvm.Cond).before a0 Z = true := hw _ (List.mem_of_getElem? (i := 122) rfl)
theorem w123 {a0 : Array Value} {Z : State} (hw : ∀ d ∈ tables_1, d.before a0 Z = true) : ((Jvm.Cond.code ({ cls := "java/lang/StringUTF16", name := "indexOfChar", desc := "([BIII)I" } : Jvm.MethodName) jdk_52_method_47_code (4 : Nat) (Option.some Jvm.ClassFile.FieldType.int)) : Jvm.Cond).before a0 Z = true := hw _ (List.mem_of_getElem? (i := 123) rfl)
theorem w124 {a0 : Array Value} {Z : State} (hw : ∀ d ∈ tables_1, d.before a0 Z = true) : ((Jvm.Cond.methodLink "java/lang/StringUTF16" (96 : Nat) ({ cls := "java/lang/StringUTF16", name := "checkBoundsBeginEnd", desc := "(II[B)V" } : Jvm.MethodName)) : Jvm.Cond).before a0 Z = true := hw _ (List.mem_of_getElem? (i := 124) rfl)
theorem w125 {a0 : Array Value} {Z : State} (hw : ∀ d ∈ tables_1, d.before a0 Z = true) : ((Jvm.Cond.static ({ cls := "java/lang/StringUTF16", name := "checkBoundsBeginEnd", desc := "(II[B)V" } : Jvm.MethodName)) : Jvm.Cond).before a0 Z = true := hw _ (List.mem_of_getElem? (i := 125) rfl)
theorem w126 {a0 : Array Value} {Z : State} (hw : ∀ d ∈ tables_1, d.before a0 Z = true) : ((Jvm.Cond.code ({ cls := "java/lang/StringUTF16", name := "checkBoundsBeginEnd", desc := "(II[B)V" } : Jvm.MethodName) jdk_52_method_93_code (3 : Nat) (Option.none : Option Jvm.ClassFile.FieldType)) : Jvm.Cond).before a0 Z = true := hw _ (List.mem_of_getElem? (i := 126) rfl)
theorem w127 {a0 : Array Value} {Z : State} (hw : ∀ d ∈ tables_1, d.before a0 Z = true) : ((Jvm.Cond.methodLink "java/lang/StringUTF16" (48 : Nat) ({ cls := "java/lang/StringUTF16", name := "length", desc := "([B)I" } : Jvm.MethodName)) : Jvm.Cond).before a0 Z = true := hw _ (List.mem_of_getElem? (i := 127) rfl)
theorem w128 {a0 : Array Value} {Z : State} (hw : ∀ d ∈ tables_1, d.before a0 Z = true) : ((Jvm.Cond.static ({ cls := "java/lang/StringUTF16", name := "length", desc := "([B)I" } : Jvm.MethodName)) : Jvm.Cond).before a0 Z = true := hw _ (List.mem_of_getElem? (i := 128) rfl)
theorem w129 {a0 : Array Value} {Z : State} (hw : ∀ d ∈ tables_1, d.before a0 Z = true) : ((Jvm.Cond.code ({ cls := "java/lang/StringUTF16", name := "length", desc := "([B)I" } : Jvm.MethodName) jdk_52_method_6_code (1 : Nat) (Option.some Jvm.ClassFile.FieldType.int)) : Jvm.Cond).before a0 Z = true := hw _ (List.mem_of_getElem? (i := 129) rfl)
theorem w130 {a0 : Array Value} {Z : State} (hw : ∀ d ∈ tables_1, d.before a0 Z = true) : ((Jvm.Cond.methodLink "java/lang/StringUTF16" (241 : Nat) ({ cls := "java/lang/String", name := "checkBoundsBeginEnd", desc := "(III)V" } : Jvm.MethodName)) : Jvm.Cond).before a0 Z = true := hw _ (List.mem_of_getElem? (i := 130) rfl)
theorem w131 {a0 : Array Value} {Z : State} (hw : ∀ d ∈ tables_1, d.before a0 Z = true) : ((Jvm.Cond.static ({ cls := "java/lang/String", name := "checkBoundsBeginEnd", desc := "(III)V" } : Jvm.MethodName)) : Jvm.Cond).before a0 Z = true := hw _ (List.mem_of_getElem? (i := 131) rfl)
theorem w132 {a0 : Array Value} {Z : State} (hw : ∀ d ∈ tables_1, d.before a0 Z = true) : ((Jvm.Cond.code ({ cls := "java/lang/String", name := "checkBoundsBeginEnd", desc := "(III)V" } : Jvm.MethodName) jdk_42_method_158_code (3 : Nat) (Option.none : Option Jvm.ClassFile.FieldType)) : Jvm.Cond).before a0 Z = true := hw _ (List.mem_of_getElem? (i := 132) rfl)
theorem w133 {a0 : Array Value} {Z : State} (hw : ∀ d ∈ tables_1, d.before a0 Z = true) : ((Jvm.Cond.fieldLink "java/lang/String" (1053 : Nat) "jdk/internal/util/Preconditions" "SIOOBE_FORMATTER" "Ljava/util/function/BiFunction;") : Jvm.Cond).before a0 Z = true := hw _ (List.mem_of_getElem? (i := 133) rfl)
theorem w134 {a0 : Array Value} {Z : State} (hw : ∀ d ∈ tables_1, d.before a0 Z = true) : ((Jvm.Cond.methodLink "java/lang/String" (1062 : Nat) ({ cls := "jdk/internal/util/Preconditions", name := "checkFromToIndex", desc := "(IIILjava/util/function/BiFunction;)I" } : Jvm.MethodName)) : Jvm.Cond).before a0 Z = true := hw _ (List.mem_of_getElem? (i := 134) rfl)
theorem w135 {a0 : Array Value} {Z : State} (hw : ∀ d ∈ tables_1, d.before a0 Z = true) : ((Jvm.Cond.methodLink "java/lang/StringUTF16" (244 : Nat) ({ cls := "java/lang/StringUTF16", name := "indexOfCharUnsafe", desc := "([BIII)I" } : Jvm.MethodName)) : Jvm.Cond).before a0 Z = true := hw _ (List.mem_of_getElem? (i := 135) rfl)
theorem w136 {a0 : Array Value} {Z : State} (hw : ∀ d ∈ tables_1, d.before a0 Z = true) : ((Jvm.Cond.static ({ cls := "java/lang/StringUTF16", name := "indexOfCharUnsafe", desc := "([BIII)I" } : Jvm.MethodName)) : Jvm.Cond).before a0 Z = true := hw _ (List.mem_of_getElem? (i := 136) rfl)
theorem w137 {a0 : Array Value} {Z : State} (hw : ∀ d ∈ tables_1, d.before a0 Z = true) : ((Jvm.Cond.code ({ cls := "java/lang/StringUTF16", name := "indexOfCharUnsafe", desc := "([BIII)I" } : Jvm.MethodName) jdk_52_method_48_code (5 : Nat) (Option.some Jvm.ClassFile.FieldType.int)) : Jvm.Cond).before a0 Z = true := hw _ (List.mem_of_getElem? (i := 137) rfl)
theorem w138 {a0 : Array Value} {Z : State} (hw : ∀ d ∈ tables_1, d.before a0 Z = true) : ((Jvm.Cond.constant "com/example/lavoro/lavoro/NamesCheckPinLaw" (8 : Nat) (56320 : Int32)) : Jvm.Cond).before a0 Z = true := hw _ (List.mem_of_getElem? (i := 138) rfl)
theorem w139 {a0 : Array Value} {Z : State} (hw : ∀ d ∈ tables_1, d.before a0 Z = true) : ((Jvm.Cond.constant "com/example/lavoro/lavoro/NamesCheckPinLaw" (9 : Nat) (65535 : Int32)) : Jvm.Cond).before a0 Z = true := hw _ (List.mem_of_getElem? (i := 139) rfl)
theorem w140 {a0 : Array Value} {Z : State} (hw : ∀ d ∈ tables_1, d.before a0 Z = true) : ((Jvm.Cond.methodLink "com/example/lavoro/lavoro/NamesCheckPinLaw" (25 : Nat) ({ cls := "com/example/lavoro/lavoro/NamesCheckPinLaw", name := "pair", desc := "(CC)I" } : Jvm.MethodName)) : Jvm.Cond).before a0 Z = true := hw _ (List.mem_of_getElem? (i := 140) rfl)
theorem w141 {a0 : Array Value} {Z : State} (hw : ∀ d ∈ tables_1, d.before a0 Z = true) : ((Jvm.Cond.static ({ cls := "com/example/lavoro/lavoro/NamesCheckPinLaw", name := "pair", desc := "(CC)I" } : Jvm.MethodName)) : Jvm.Cond).before a0 Z = true := hw _ (List.mem_of_getElem? (i := 141) rfl)
theorem w142 {a0 : Array Value} {Z : State} (hw : ∀ d ∈ tables_1, d.before a0 Z = true) : ((Jvm.Cond.code ({ cls := "com/example/lavoro/lavoro/NamesCheckPinLaw", name := "pair", desc := "(CC)I" } : Jvm.MethodName) method_5_code (2 : Nat) (Option.some Jvm.ClassFile.FieldType.int)) : Jvm.Cond).before a0 Z = true := hw _ (List.mem_of_getElem? (i := 142) rfl)
theorem w143 {a0 : Array Value} {Z : State} (hw : ∀ d ∈ tables_1, d.before a0 Z = true) : ((Jvm.Cond.methodLink "com/example/lavoro/lavoro/NamesCheckPinLaw" (12 : Nat) ({ cls := "com/example/lavoro/lavoro/NamesCheckPinLaw", name := "high", desc := "(C)Z" } : Jvm.MethodName)) : Jvm.Cond).before a0 Z = true := hw _ (List.mem_of_getElem? (i := 143) rfl)
theorem w144 {a0 : Array Value} {Z : State} (hw : ∀ d ∈ tables_1, d.before a0 Z = true) : ((Jvm.Cond.static ({ cls := "com/example/lavoro/lavoro/NamesCheckPinLaw", name := "high", desc := "(C)Z" } : Jvm.MethodName)) : Jvm.Cond).before a0 Z = true := hw _ (List.mem_of_getElem? (i := 144) rfl)
theorem w145 {a0 : Array Value} {Z : State} (hw : ∀ d ∈ tables_1, d.before a0 Z = true) : ((Jvm.Cond.code ({ cls := "com/example/lavoro/lavoro/NamesCheckPinLaw", name := "high", desc := "(C)Z" } : Jvm.MethodName) method_3_code (1 : Nat) (Option.some Jvm.ClassFile.FieldType.boolean)) : Jvm.Cond).before a0 Z = true := hw _ (List.mem_of_getElem? (i := 145) rfl)
theorem w146 {a0 : Array Value} {Z : State} (hw : ∀ d ∈ tables_1, d.before a0 Z = true) : ((Jvm.Cond.constant "com/example/lavoro/lavoro/NamesCheckPinLaw" (10 : Nat) (56319 : Int32)) : Jvm.Cond).before a0 Z = true := hw _ (List.mem_of_getElem? (i := 146) rfl)
theorem w147 {a0 : Array Value} {Z : State} (hw : ∀ d ∈ tables_1, d.before a0 Z = true) : ((Jvm.Cond.methodLink "java/lang/StringUTF16" (75 : Nat) ({ cls := "java/lang/Character", name := "isHighSurrogate", desc := "(C)Z" } : Jvm.MethodName)) : Jvm.Cond).before a0 Z = true := hw _ (List.mem_of_getElem? (i := 147) rfl)
theorem w148 {a0 : Array Value} {Z : State} (hw : ∀ d ∈ tables_1, d.before a0 Z = true) : ((Jvm.Cond.static ({ cls := "java/lang/Character", name := "isHighSurrogate", desc := "(C)Z" } : Jvm.MethodName)) : Jvm.Cond).before a0 Z = true := hw _ (List.mem_of_getElem? (i := 148) rfl)
theorem w149 {a0 : Array Value} {Z : State} (hw : ∀ d ∈ tables_1, d.before a0 Z = true) : ((Jvm.Cond.initialized "java/lang/Character") : Jvm.Cond).before a0 Z = true := hw _ (List.mem_of_getElem? (i := 149) rfl)
theorem w150 {a0 : Array Value} {Z : State} (hw : ∀ d ∈ tables_1, d.before a0 Z = true) : ((Jvm.Cond.code ({ cls := "java/lang/Character", name := "isHighSurrogate", desc := "(C)Z" } : Jvm.MethodName) jdk_89_method_14_code (1 : Nat) (Option.some Jvm.ClassFile.FieldType.boolean)) : Jvm.Cond).before a0 Z = true := hw _ (List.mem_of_getElem? (i := 150) rfl)
theorem w151 {a0 : Array Value} {Z : State} (hw : ∀ d ∈ tables_1, d.before a0 Z = true) : ((Jvm.Cond.constant "java/lang/Character" (75 : Nat) (55296 : Int32)) : Jvm.Cond).before a0 Z = true := hw _ (List.mem_of_getElem? (i := 151) rfl)
theorem w152 {a0 : Array Value} {Z : State} (hw : ∀ d ∈ tables_1, d.before a0 Z = true) : ((Jvm.Cond.constant "java/lang/Character" (76 : Nat) (56320 : Int32)) : Jvm.Cond).before a0 Z = true := hw _ (List.mem_of_getElem? (i := 152) rfl)
theorem w153 {a0 : Array Value} {Z : State} (hw : ∀ d ∈ tables_1, d.before a0 Z = true) : ((Jvm.Cond.methodLink "com/example/lavoro/lavoro/NamesCheckPinLaw" (18 : Nat) ({ cls := "com/example/lavoro/lavoro/NamesCheckPinLaw", name := "low", desc := "(C)Z" } : Jvm.MethodName)) : Jvm.Cond).before a0 Z = true := hw _ (List.mem_of_getElem? (i := 153) rfl)
theorem w154 {a0 : Array Value} {Z : State} (hw : ∀ d ∈ tables_1, d.before a0 Z = true) : ((Jvm.Cond.static ({ cls := "com/example/lavoro/lavoro/NamesCheckPinLaw", name := "low", desc := "(C)Z" } : Jvm.MethodName)) : Jvm.Cond).before a0 Z = true := hw _ (List.mem_of_getElem? (i := 154) rfl)
theorem w155 {a0 : Array Value} {Z : State} (hw : ∀ d ∈ tables_1, d.before a0 Z = true) : ((Jvm.Cond.code ({ cls := "com/example/lavoro/lavoro/NamesCheckPinLaw", name := "low", desc := "(C)Z" } : Jvm.MethodName) method_4_code (1 : Nat) (Option.some Jvm.ClassFile.FieldType.boolean)) : Jvm.Cond).before a0 Z = true := hw _ (List.mem_of_getElem? (i := 155) rfl)
theorem w156 {a0 : Array Value} {Z : State} (hw : ∀ d ∈ tables_1, d.before a0 Z = true) : ((Jvm.Cond.methodLink "java/lang/StringUTF16" (81 : Nat) ({ cls := "java/lang/Character", name := "isLowSurrogate", desc := "(C)Z" } : Jvm.MethodName)) : Jvm.Cond).before a0 Z = true := hw _ (List.mem_of_getElem? (i := 156) rfl)
theorem w157 {a0 : Array Value} {Z : State} (hw : ∀ d ∈ tables_1, d.before a0 Z = true) : ((Jvm.Cond.static ({ cls := "java/lang/Character", name := "isLowSurrogate", desc := "(C)Z" } : Jvm.MethodName)) : Jvm.Cond).before a0 Z = true := hw _ (List.mem_of_getElem? (i := 157) rfl)
theorem w158 {a0 : Array Value} {Z : State} (hw : ∀ d ∈ tables_1, d.before a0 Z = true) : ((Jvm.Cond.code ({ cls := "java/lang/Character", name := "isLowSurrogate", desc := "(C)Z" } : Jvm.MethodName) jdk_89_method_15_code (1 : Nat) (Option.some Jvm.ClassFile.FieldType.boolean)) : Jvm.Cond).before a0 Z = true := hw _ (List.mem_of_getElem? (i := 158) rfl)
theorem w159 {a0 : Array Value} {Z : State} (hw : ∀ d ∈ tables_1, d.before a0 Z = true) : ((Jvm.Cond.constant "com/example/lavoro/lavoro/NamesCheckPinLaw" (11 : Nat) (57343 : Int32)) : Jvm.Cond).before a0 Z = true := hw _ (List.mem_of_getElem? (i := 159) rfl)
theorem w160 {a0 : Array Value} {Z : State} (hw : ∀ d ∈ tables_1, d.before a0 Z = true) : ((Jvm.Cond.constant "java/lang/Character" (77 : Nat) (57344 : Int32)) : Jvm.Cond).before a0 Z = true := hw _ (List.mem_of_getElem? (i := 160) rfl)
theorem w161 {a0 : Array Value} {Z : State} (hw : ∀ d ∈ tables_1, d.before a0 Z = true) : ((Jvm.Cond.methodLink "java/lang/String" (637 : Nat) ({ cls := "java/lang/StringLatin1", name := "indexOf", desc := "([BIII)I" } : Jvm.MethodName)) : Jvm.Cond).before a0 Z = true := hw _ (List.mem_of_getElem? (i := 161) rfl)
theorem w162 {a0 : Array Value} {Z : State} (hw : ∀ d ∈ tables_1, d.before a0 Z = true) : ((Jvm.Cond.static ({ cls := "java/lang/StringLatin1", name := "indexOf", desc := "([BIII)I" } : Jvm.MethodName)) : Jvm.Cond).before a0 Z = true := hw _ (List.mem_of_getElem? (i := 162) rfl)
theorem w163 {a0 : Array Value} {Z : State} (hw : ∀ d ∈ tables_1, d.before a0 Z = true) : ((Jvm.Cond.initialized "java/lang/StringLatin1") : Jvm.Cond).before a0 Z = true := hw _ (List.mem_of_getElem? (i := 163) rfl)
theorem w164 {a0 : Array Value} {Z : State} (hw : ∀ d ∈ tables_1, d.before a0 Z = true) : ((Jvm.Cond.code ({ cls := "java/lang/StringLatin1", name := "indexOf", desc := "([BIII)I" } : Jvm.MethodName) jdk_43_method_22_code (4 : Nat) (Option.some Jvm.ClassFile.FieldType.int)) : Jvm.Cond).before a0 Z = true := hw _ (List.mem_of_getElem? (i := 164) rfl)
theorem w165 {a0 : Array Value} {Z : State} (hw : ∀ d ∈ tables_1, d.before a0 Z = true) : ((Jvm.Cond.methodLink "java/lang/StringLatin1" (88 : Nat) ({ cls := "java/lang/StringLatin1", name := "canEncode", desc := "(I)Z" } : Jvm.MethodName)) : Jvm.Cond).before a0 Z = true := hw _ (List.mem_of_getElem? (i := 165) rfl)
theorem w166 {a0 : Array Value} {Z : State} (hw : ∀ d ∈ tables_1, d.before a0 Z = true) : ((Jvm.Cond.static ({ cls := "java/lang/StringLatin1", name := "canEncode", desc := "(I)Z" } : Jvm.MethodName)) : Jvm.Cond).before a0 Z = true := hw _ (List.mem_of_getElem? (i := 166) rfl)
theorem w167 {a0 : Array Value} {Z : State} (hw : ∀ d ∈ tables_1, d.before a0 Z = true) : ((Jvm.Cond.code ({ cls := "java/lang/StringLatin1", name := "canEncode", desc := "(I)Z" } : Jvm.MethodName) jdk_43_method_4_code (1 : Nat) (Option.some Jvm.ClassFile.FieldType.boolean)) : Jvm.Cond).before a0 Z = true := hw _ (List.mem_of_getElem? (i := 167) rfl)
theorem w168 {a0 : Array Value} {Z : State} (hw : ∀ d ∈ tables_1, d.before a0 Z = true) : ((Jvm.Cond.methodLink "java/lang/StringLatin1" (92 : Nat) ({ cls := "java/lang/Math", name := "max", desc := "(II)I" } : Jvm.MethodName)) : Jvm.Cond).before a0 Z = true := hw _ (List.mem_of_getElem? (i := 168) rfl)
theorem w169 {a0 : Array Value} {Z : State} (hw : ∀ d ∈ tables_1, d.before a0 Z = true) : ((Jvm.Cond.methodLink "java/lang/StringLatin1" (38 : Nat) ({ cls := "java/lang/Math", name := "min", desc := "(II)I" } : Jvm.MethodName)) : Jvm.Cond).before a0 Z = true := hw _ (List.mem_of_getElem? (i := 169) rfl)
theorem w170 {a0 : Array Value} {Z : State} (hw : ∀ d ∈ tables_1, d.before a0 Z = true) : ((Jvm.Cond.methodLink "java/lang/StringLatin1" (95 : Nat) ({ cls := "java/lang/StringLatin1", name := "indexOfChar", desc := "([BIII)I" } : Jvm.MethodName)) : Jvm.Cond).before a0 Z = true := hw _ (List.mem_of_getElem? (i := 170) rfl)
theorem w171 {a0 : Array Value} {Z : State} (hw : ∀ d ∈ tables_1, d.before a0 Z = true) : ((Jvm.Cond.static ({ cls := "java/lang/StringLatin1", name := "indexOfChar", desc := "([BIII)I" } : Jvm.MethodName)) : Jvm.Cond).before a0 Z = true := hw _ (List.mem_of_getElem? (i := 171) rfl)
theorem w172 {a0 : Array Value} {Z : State} (hw : ∀ d ∈ tables_1, d.before a0 Z = true) : ((Jvm.Cond.code ({ cls := "java/lang/StringLatin1", name := "indexOfChar", desc := "([BIII)I" } : Jvm.MethodName) jdk_43_method_23_code (6 : Nat) (Option.some Jvm.ClassFile.FieldType.int)) : Jvm.Cond).before a0 Z = true := hw _ (List.mem_of_getElem? (i := 172) rfl)
theorem wStr {a0 : Array Value} {Z : State} (hw : ∀ d ∈ tables_1, d.before a0 Z = true) : ∀ d ∈ Bundle.stringAtoms, d.before a0 Z = true := fun d hd => by
  simp only [Bundle.stringAtoms, List.mem_cons, List.not_mem_nil, or_false] at hd
  rcases hd with rfl | rfl | rfl | rfl | rfl | rfl | rfl
  · exact (w12 hw)
  · exact (w11 hw)
  · exact (w28 hw)
  · exact (w57 hw)
  · exact (w55 hw)
  · exact (w59 hw)
  · exact (w60 hw)
abbrev EL1 : List (String × Nat) := []
theorem ew {a0 : Array Value} {Z : State} (hw : ∀ d ∈ tables_1, d.before a0 Z = true) : EW Z a0 EL1 := EW.nil
theorem d_mmax_0 : decode jdk_29_method_65_code 0 = .ok (.iload_n 0, 1) := by decide +kernel
theorem d_mmax_1 : decode jdk_29_method_65_code 1 = .ok (.iload_n 1, 1) := by decide +kernel
theorem d_mmax_2 : decode jdk_29_method_65_code 2 = .ok (.if_icmp .lt 7, 3) := by decide +kernel
theorem d_mmax_5 : decode jdk_29_method_65_code 5 = .ok (.iload_n 0, 1) := by decide +kernel
theorem d_mmax_6 : decode jdk_29_method_65_code 6 = .ok (.goto 4, 3) := by decide +kernel
theorem d_mmax_9 : decode jdk_29_method_65_code 9 = .ok (.iload_n 1, 1) := by decide +kernel
theorem d_mmax_10 : decode jdk_29_method_65_code 10 = .ok (.ireturn, 1) := by decide +kernel
theorem d_mmin_0 : decode jdk_29_method_69_code 0 = .ok (.iload_n 0, 1) := by decide +kernel
theorem d_mmin_1 : decode jdk_29_method_69_code 1 = .ok (.iload_n 1, 1) := by decide +kernel
theorem d_mmin_2 : decode jdk_29_method_69_code 2 = .ok (.if_icmp .gt 7, 3) := by decide +kernel
theorem d_mmin_5 : decode jdk_29_method_69_code 5 = .ok (.iload_n 0, 1) := by decide +kernel
theorem d_mmin_6 : decode jdk_29_method_69_code 6 = .ok (.goto 4, 3) := by decide +kernel
theorem d_mmin_9 : decode jdk_29_method_69_code 9 = .ok (.iload_n 1, 1) := by decide +kernel
theorem d_mmin_10 : decode jdk_29_method_69_code 10 = .ok (.ireturn, 1) := by decide +kernel
theorem d_rnn_0 : decode jdk_31_method_11_code 0 = .ok (.aload_n 0, 1) := by decide +kernel
theorem d_rnn_1 : decode jdk_31_method_11_code 1 = .ok (.ifnonnull 12, 3) := by decide +kernel
theorem d_rnn_13 : decode jdk_31_method_11_code 13 = .ok (.aload_n 0, 1) := by decide +kernel
theorem d_rnn_14 : decode jdk_31_method_11_code 14 = .ok (.areturn, 1) := by decide +kernel
theorem d_ocft_0 : decode jdk_31_method_18_code 0 = .ok (.iload_n 0, 1) := by decide +kernel
theorem d_ocft_1 : decode jdk_31_method_18_code 1 = .ok (.iload_n 1, 1) := by decide +kernel
theorem d_ocft_2 : decode jdk_31_method_18_code 2 = .ok (.iload_n 2, 1) := by decide +kernel
theorem d_ocft_3 : decode jdk_31_method_18_code 3 = .ok (.aconst_null, 1) := by decide +kernel
theorem d_ocft_4 : decode jdk_31_method_18_code 4 = .ok (.invokestatic 111, 3) := by decide +kernel
theorem d_ocft_7 : decode jdk_31_method_18_code 7 = .ok (.ireturn, 1) := by decide +kernel
theorem d_pcft_0 : decode jdk_41_method_12_code 0 = .ok (.iload_n 0, 1) := by decide +kernel
theorem d_pcft_1 : decode jdk_41_method_12_code 1 = .ok (.ifCond .lt 13, 3) := by decide +kernel
theorem d_pcft_4 : decode jdk_41_method_12_code 4 = .ok (.iload_n 0, 1) := by decide +kernel
theorem d_pcft_5 : decode jdk_41_method_12_code 5 = .ok (.iload_n 1, 1) := by decide +kernel
theorem d_pcft_6 : decode jdk_41_method_12_code 6 = .ok (.if_icmp .gt 8, 3) := by decide +kernel
theorem d_pcft_9 : decode jdk_41_method_12_code 9 = .ok (.iload_n 1, 1) := by decide +kernel
theorem d_pcft_10 : decode jdk_41_method_12_code 10 = .ok (.iload_n 2, 1) := by decide +kernel
theorem d_pcft_11 : decode jdk_41_method_12_code 11 = .ok (.if_icmp .le 11, 3) := by decide +kernel
theorem d_pcft_22 : decode jdk_41_method_12_code 22 = .ok (.iload_n 0, 1) := by decide +kernel
theorem d_pcft_23 : decode jdk_41_method_12_code 23 = .ok (.ireturn, 1) := by decide +kernel
theorem d_sini4_0 : decode jdk_42_method_149_code 0 = .ok (.aload_n 0, 1) := by decide +kernel
theorem d_sini4_1 : decode jdk_42_method_149_code 1 = .ok (.invokespecial 1, 3) := by decide +kernel
theorem d_sini4_4 : decode jdk_42_method_149_code 4 = .ok (.iload_n 3, 1) := by decide +kernel
theorem d_sini4_5 : decode jdk_42_method_149_code 5 = .ok (.ifCond .ne 22, 3) := by decide +kernel
theorem d_sini4_27 : decode jdk_42_method_149_code 27 = .ok (.getstatic 38, 3) := by decide +kernel
theorem d_sini4_30 : decode jdk_42_method_149_code 30 = .ok (.ifCond .eq 28, 3) := by decide +kernel
theorem d_sini4_33 : decode jdk_42_method_149_code 33 = .ok (.aload_n 1, 1) := by decide +kernel
theorem d_sini4_34 : decode jdk_42_method_149_code 34 = .ok (.iload_n 2, 1) := by decide +kernel
theorem d_sini4_35 : decode jdk_42_method_149_code 35 = .ok (.iload_n 3, 1) := by decide +kernel
theorem d_sini4_36 : decode jdk_42_method_149_code 36 = .ok (.invokestatic 177, 3) := by decide +kernel
theorem d_sini4_39 : decode jdk_42_method_149_code 39 = .ok (.astore 5, 2) := by decide +kernel
theorem d_sini4_41 : decode jdk_42_method_149_code 41 = .ok (.aload_n 0, 1) := by decide +kernel
theorem d_sini4_42 : decode jdk_42_method_149_code 42 = .ok (.aload 5, 2) := by decide +kernel
theorem d_sini4_44 : decode jdk_42_method_149_code 44 = .ok (.iload_n 3, 1) := by decide +kernel
theorem d_sini4_45 : decode jdk_42_method_149_code 45 = .ok (.invokestatic 47, 3) := by decide +kernel
theorem d_sini4_48 : decode jdk_42_method_149_code 48 = .ok (.putfield 15, 3) := by decide +kernel
theorem d_sini4_51 : decode jdk_42_method_149_code 51 = .ok (.aload_n 0, 1) := by decide +kernel
theorem d_sini4_52 : decode jdk_42_method_149_code 52 = .ok (.aload 5, 2) := by decide +kernel
theorem d_sini4_54 : decode jdk_42_method_149_code 54 = .ok (.putfield 9, 3) := by decide +kernel
theorem d_sini4_57 : decode jdk_42_method_149_code 57 = .ok (.return_, 1) := by decide +kernel
theorem d_scod_0 : decode jdk_42_method_152_code 0 = .ok (.getstatic 38, 3) := by decide +kernel
theorem d_scod_3 : decode jdk_42_method_152_code 3 = .ok (.ifCond .eq 10, 3) := by decide +kernel
theorem d_scod_6 : decode jdk_42_method_152_code 6 = .ok (.aload_n 0, 1) := by decide +kernel
theorem d_scod_7 : decode jdk_42_method_152_code 7 = .ok (.getfield 15, 3) := by decide +kernel
theorem d_scod_10 : decode jdk_42_method_152_code 10 = .ok (.goto 4, 3) := by decide +kernel
theorem d_scod_14 : decode jdk_42_method_152_code 14 = .ok (.ireturn, 1) := by decide +kernel
theorem d_sil1_0 : decode jdk_42_method_154_code 0 = .ok (.getstatic 38, 3) := by decide +kernel
theorem d_sil1_3 : decode jdk_42_method_154_code 3 = .ok (.ifCond .eq 14, 3) := by decide +kernel
theorem d_sil1_6 : decode jdk_42_method_154_code 6 = .ok (.aload_n 0, 1) := by decide +kernel
theorem d_sil1_7 : decode jdk_42_method_154_code 7 = .ok (.getfield 15, 3) := by decide +kernel
theorem d_sil1_10 : decode jdk_42_method_154_code 10 = .ok (.ifCond .ne 7, 3) := by decide +kernel
theorem d_sil1_13 : decode jdk_42_method_154_code 13 = .ok (.iconst 1, 1) := by decide +kernel
theorem d_sil1_14 : decode jdk_42_method_154_code 14 = .ok (.goto 4, 3) := by decide +kernel
theorem d_sil1_17 : decode jdk_42_method_154_code 17 = .ok (.iconst 0, 1) := by decide +kernel
theorem d_sil1_18 : decode jdk_42_method_154_code 18 = .ok (.ireturn, 1) := by decide +kernel
theorem d_sbbe_0 : decode jdk_42_method_158_code 0 = .ok (.iload_n 0, 1) := by decide +kernel
theorem d_sbbe_1 : decode jdk_42_method_158_code 1 = .ok (.iload_n 1, 1) := by decide +kernel
theorem d_sbbe_2 : decode jdk_42_method_158_code 2 = .ok (.iload_n 2, 1) := by decide +kernel
theorem d_sbbe_3 : decode jdk_42_method_158_code 3 = .ok (.getstatic 1053, 3) := by decide +kernel
theorem d_sbbe_6 : decode jdk_42_method_158_code 6 = .ok (.invokestatic 1062, 3) := by decide +kernel
theorem d_sbbe_9 : decode jdk_42_method_158_code 9 = .ok (.pop, 1) := by decide +kernel
theorem d_sbbe_10 : decode jdk_42_method_158_code 10 = .ok (.return_, 1) := by decide +kernel
theorem d_sini1_0 : decode jdk_42_method_3_code 0 = .ok (.aload_n 0, 1) := by decide +kernel
theorem d_sini1_1 : decode jdk_42_method_3_code 1 = .ok (.aload_n 1, 1) := by decide +kernel
theorem d_sini1_2 : decode jdk_42_method_3_code 2 = .ok (.iconst 0, 1) := by decide +kernel
theorem d_sini1_3 : decode jdk_42_method_3_code 3 = .ok (.aload_n 1, 1) := by decide +kernel
theorem d_sini1_4 : decode jdk_42_method_3_code 4 = .ok (.arraylength, 1) := by decide +kernel
theorem d_sini1_5 : decode jdk_42_method_3_code 5 = .ok (.aconst_null, 1) := by decide +kernel
theorem d_sini1_6 : decode jdk_42_method_3_code 6 = .ok (.invokespecial 27, 3) := by decide +kernel
theorem d_sini1_9 : decode jdk_42_method_3_code 9 = .ok (.return_, 1) := by decide +kernel
theorem d_slen_0 : decode jdk_42_method_54_code 0 = .ok (.aload_n 0, 1) := by decide +kernel
theorem d_slen_1 : decode jdk_42_method_54_code 1 = .ok (.getfield 9, 3) := by decide +kernel
theorem d_slen_4 : decode jdk_42_method_54_code 4 = .ok (.arraylength, 1) := by decide +kernel
theorem d_slen_5 : decode jdk_42_method_54_code 5 = .ok (.aload_n 0, 1) := by decide +kernel
theorem d_slen_6 : decode jdk_42_method_54_code 6 = .ok (.invokevirtual 335, 3) := by decide +kernel
theorem d_slen_9 : decode jdk_42_method_54_code 9 = .ok (.ishr, 1) := by decide +kernel
theorem d_slen_10 : decode jdk_42_method_54_code 10 = .ok (.ireturn, 1) := by decide +kernel
theorem d_scpc_0 : decode jdk_42_method_59_code 0 = .ok (.iload_n 1, 1) := by decide +kernel
theorem d_scpc_1 : decode jdk_42_method_59_code 1 = .ok (.iload_n 2, 1) := by decide +kernel
theorem d_scpc_2 : decode jdk_42_method_59_code 2 = .ok (.aload_n 0, 1) := by decide +kernel
theorem d_scpc_3 : decode jdk_42_method_59_code 3 = .ok (.invokevirtual 505, 3) := by decide +kernel
theorem d_scpc_6 : decode jdk_42_method_59_code 6 = .ok (.invokestatic 511, 3) := by decide +kernel
theorem d_scpc_9 : decode jdk_42_method_59_code 9 = .ok (.pop, 1) := by decide +kernel
theorem d_scpc_10 : decode jdk_42_method_59_code 10 = .ok (.aload_n 0, 1) := by decide +kernel
theorem d_scpc_11 : decode jdk_42_method_59_code 11 = .ok (.invokevirtual 492, 3) := by decide +kernel
theorem d_scpc_14 : decode jdk_42_method_59_code 14 = .ok (.ifCond .eq 7, 3) := by decide +kernel
theorem d_scpc_17 : decode jdk_42_method_59_code 17 = .ok (.iload_n 2, 1) := by decide +kernel
theorem d_scpc_18 : decode jdk_42_method_59_code 18 = .ok (.iload_n 1, 1) := by decide +kernel
theorem d_scpc_19 : decode jdk_42_method_59_code 19 = .ok (.isub, 1) := by decide +kernel
theorem d_scpc_20 : decode jdk_42_method_59_code 20 = .ok (.ireturn, 1) := by decide +kernel
theorem d_scpc_21 : decode jdk_42_method_59_code 21 = .ok (.aload_n 0, 1) := by decide +kernel
theorem d_scpc_22 : decode jdk_42_method_59_code 22 = .ok (.getfield 9, 3) := by decide +kernel
theorem d_scpc_25 : decode jdk_42_method_59_code 25 = .ok (.iload_n 1, 1) := by decide +kernel
theorem d_scpc_26 : decode jdk_42_method_59_code 26 = .ok (.iload_n 2, 1) := by decide +kernel
theorem d_scpc_27 : decode jdk_42_method_59_code 27 = .ok (.invokestatic 514, 3) := by decide +kernel
theorem d_scpc_30 : decode jdk_42_method_59_code 30 = .ok (.ireturn, 1) := by decide +kernel
theorem d_six1_0 : decode jdk_42_method_79_code 0 = .ok (.aload_n 0, 1) := by decide +kernel
theorem d_six1_1 : decode jdk_42_method_79_code 1 = .ok (.iload_n 1, 1) := by decide +kernel
theorem d_six1_2 : decode jdk_42_method_79_code 2 = .ok (.iconst 0, 1) := by decide +kernel
theorem d_six1_3 : decode jdk_42_method_79_code 3 = .ok (.invokevirtual 633, 3) := by decide +kernel
theorem d_six1_6 : decode jdk_42_method_79_code 6 = .ok (.ireturn, 1) := by decide +kernel
theorem d_six2_0 : decode jdk_42_method_80_code 0 = .ok (.aload_n 0, 1) := by decide +kernel
theorem d_six2_1 : decode jdk_42_method_80_code 1 = .ok (.invokevirtual 492, 3) := by decide +kernel
theorem d_six2_4 : decode jdk_42_method_80_code 4 = .ok (.ifCond .eq 19, 3) := by decide +kernel
theorem d_six2_7 : decode jdk_42_method_80_code 7 = .ok (.aload_n 0, 1) := by decide +kernel
theorem d_six2_8 : decode jdk_42_method_80_code 8 = .ok (.getfield 9, 3) := by decide +kernel
theorem d_six2_11 : decode jdk_42_method_80_code 11 = .ok (.iload_n 1, 1) := by decide +kernel
theorem d_six2_12 : decode jdk_42_method_80_code 12 = .ok (.iload_n 2, 1) := by decide +kernel
theorem d_six2_13 : decode jdk_42_method_80_code 13 = .ok (.aload_n 0, 1) := by decide +kernel
theorem d_six2_14 : decode jdk_42_method_80_code 14 = .ok (.invokevirtual 505, 3) := by decide +kernel
theorem d_six2_17 : decode jdk_42_method_80_code 17 = .ok (.invokestatic 637, 3) := by decide +kernel
theorem d_six2_20 : decode jdk_42_method_80_code 20 = .ok (.goto 16, 3) := by decide +kernel
theorem d_six2_23 : decode jdk_42_method_80_code 23 = .ok (.aload_n 0, 1) := by decide +kernel
theorem d_six2_24 : decode jdk_42_method_80_code 24 = .ok (.getfield 9, 3) := by decide +kernel
theorem d_six2_27 : decode jdk_42_method_80_code 27 = .ok (.iload_n 1, 1) := by decide +kernel
theorem d_six2_28 : decode jdk_42_method_80_code 28 = .ok (.iload_n 2, 1) := by decide +kernel
theorem d_six2_29 : decode jdk_42_method_80_code 29 = .ok (.aload_n 0, 1) := by decide +kernel
theorem d_six2_30 : decode jdk_42_method_80_code 30 = .ok (.invokevirtual 505, 3) := by decide +kernel
theorem d_six2_33 : decode jdk_42_method_80_code 33 = .ok (.invokestatic 640, 3) := by decide +kernel
theorem d_six2_36 : decode jdk_42_method_80_code 36 = .ok (.ireturn, 1) := by decide +kernel
theorem d_lidx_0 : decode jdk_43_method_22_code 0 = .ok (.iload_n 1, 1) := by decide +kernel
theorem d_lidx_1 : decode jdk_43_method_22_code 1 = .ok (.invokestatic 88, 3) := by decide +kernel
theorem d_lidx_4 : decode jdk_43_method_22_code 4 = .ok (.ifCond .ne 5, 3) := by decide +kernel
theorem d_lidx_9 : decode jdk_43_method_22_code 9 = .ok (.iload_n 2, 1) := by decide +kernel
theorem d_lidx_10 : decode jdk_43_method_22_code 10 = .ok (.iconst 0, 1) := by decide +kernel
theorem d_lidx_11 : decode jdk_43_method_22_code 11 = .ok (.invokestatic 92, 3) := by decide +kernel
theorem d_lidx_14 : decode jdk_43_method_22_code 14 = .ok (.istore_n 2, 1) := by decide +kernel
theorem d_lidx_15 : decode jdk_43_method_22_code 15 = .ok (.iload_n 3, 1) := by decide +kernel
theorem d_lidx_16 : decode jdk_43_method_22_code 16 = .ok (.aload_n 0, 1) := by decide +kernel
theorem d_lidx_17 : decode jdk_43_method_22_code 17 = .ok (.arraylength, 1) := by decide +kernel
theorem d_lidx_18 : decode jdk_43_method_22_code 18 = .ok (.invokestatic 38, 3) := by decide +kernel
theorem d_lidx_21 : decode jdk_43_method_22_code 21 = .ok (.istore_n 3, 1) := by decide +kernel
theorem d_lidx_22 : decode jdk_43_method_22_code 22 = .ok (.iload_n 2, 1) := by decide +kernel
theorem d_lidx_23 : decode jdk_43_method_22_code 23 = .ok (.iload_n 3, 1) := by decide +kernel
theorem d_lidx_24 : decode jdk_43_method_22_code 24 = .ok (.if_icmp .lt 5, 3) := by decide +kernel
theorem d_lidx_29 : decode jdk_43_method_22_code 29 = .ok (.aload_n 0, 1) := by decide +kernel
theorem d_lidx_30 : decode jdk_43_method_22_code 30 = .ok (.iload_n 1, 1) := by decide +kernel
theorem d_lidx_31 : decode jdk_43_method_22_code 31 = .ok (.iload_n 2, 1) := by decide +kernel
theorem d_lidx_32 : decode jdk_43_method_22_code 32 = .ok (.iload_n 3, 1) := by decide +kernel
theorem d_lidx_33 : decode jdk_43_method_22_code 33 = .ok (.invokestatic 95, 3) := by decide +kernel
theorem d_lidx_36 : decode jdk_43_method_22_code 36 = .ok (.ireturn, 1) := by decide +kernel
theorem d_ioch_0 : decode jdk_43_method_23_code 0 = .ok (.iload_n 1, 1) := by decide +kernel
theorem d_ioch_1 : decode jdk_43_method_23_code 1 = .ok (.i2b, 1) := by decide +kernel
theorem d_ioch_2 : decode jdk_43_method_23_code 2 = .ok (.istore 4, 2) := by decide +kernel
theorem d_ioch_4 : decode jdk_43_method_23_code 4 = .ok (.iload_n 2, 1) := by decide +kernel
theorem d_ioch_5 : decode jdk_43_method_23_code 5 = .ok (.istore 5, 2) := by decide +kernel
theorem d_ioch_7 : decode jdk_43_method_23_code 7 = .ok (.iload 5, 2) := by decide +kernel
theorem d_ioch_9 : decode jdk_43_method_23_code 9 = .ok (.iload_n 3, 1) := by decide +kernel
theorem d_ioch_10 : decode jdk_43_method_23_code 10 = .ok (.if_icmp .ge 21, 3) := by decide +kernel
theorem d_ioch_13 : decode jdk_43_method_23_code 13 = .ok (.aload_n 0, 1) := by decide +kernel
theorem d_ioch_14 : decode jdk_43_method_23_code 14 = .ok (.iload 5, 2) := by decide +kernel
theorem d_ioch_16 : decode jdk_43_method_23_code 16 = .ok (.baload, 1) := by decide +kernel
theorem d_ioch_17 : decode jdk_43_method_23_code 17 = .ok (.iload 4, 2) := by decide +kernel
theorem d_ioch_19 : decode jdk_43_method_23_code 19 = .ok (.if_icmp .ne 6, 3) := by decide +kernel
theorem d_ioch_25 : decode jdk_43_method_23_code 25 = .ok (.iinc 5 1, 3) := by decide +kernel
theorem d_ioch_28 : decode jdk_43_method_23_code 28 = .ok (.goto (-21), 3) := by decide +kernel
theorem d_ioch_31 : decode jdk_43_method_23_code 31 = .ok (.iconst (-1), 1) := by decide +kernel
theorem d_ioch_32 : decode jdk_43_method_23_code 32 = .ok (.ireturn, 1) := by decide +kernel
theorem d_cenI_0 : decode jdk_43_method_4_code 0 = .ok (.iload_n 0, 1) := by decide +kernel
theorem d_cenI_1 : decode jdk_43_method_4_code 1 = .ok (.ifCond .lt 14, 3) := by decide +kernel
theorem d_cenI_4 : decode jdk_43_method_4_code 4 = .ok (.iload_n 0, 1) := by decide +kernel
theorem d_cenI_5 : decode jdk_43_method_4_code 5 = .ok (.sipush 255, 3) := by decide +kernel
theorem d_cenI_8 : decode jdk_43_method_4_code 8 = .ok (.if_icmp .gt 7, 3) := by decide +kernel
theorem d_cenI_11 : decode jdk_43_method_4_code 11 = .ok (.iconst 1, 1) := by decide +kernel
theorem d_cenI_12 : decode jdk_43_method_4_code 12 = .ok (.goto 4, 3) := by decide +kernel
theorem d_cenI_16 : decode jdk_43_method_4_code 16 = .ok (.ireturn, 1) := by decide +kernel
theorem d_cpc4_0 : decode jdk_52_method_11_code 0 = .ok (.getstatic 44, 3) := by decide +kernel
theorem d_cpc4_3 : decode jdk_52_method_11_code 3 = .ok (.ifCond .ne 16, 3) := by decide +kernel
theorem d_cpc4_19 : decode jdk_52_method_11_code 19 = .ok (.iload_n 2, 1) := by decide +kernel
theorem d_cpc4_20 : decode jdk_52_method_11_code 20 = .ok (.iload_n 1, 1) := by decide +kernel
theorem d_cpc4_21 : decode jdk_52_method_11_code 21 = .ok (.isub, 1) := by decide +kernel
theorem d_cpc4_22 : decode jdk_52_method_11_code 22 = .ok (.istore 4, 2) := by decide +kernel
theorem d_cpc4_24 : decode jdk_52_method_11_code 24 = .ok (.iload_n 1, 1) := by decide +kernel
theorem d_cpc4_25 : decode jdk_52_method_11_code 25 = .ok (.istore 5, 2) := by decide +kernel
theorem d_cpc4_27 : decode jdk_52_method_11_code 27 = .ok (.iload_n 3, 1) := by decide +kernel
theorem d_cpc4_28 : decode jdk_52_method_11_code 28 = .ok (.ifCond .eq 16, 3) := by decide +kernel
theorem d_cpc4_44 : decode jdk_52_method_11_code 44 = .ok (.iload 5, 2) := by decide +kernel
theorem d_cpc4_46 : decode jdk_52_method_11_code 46 = .ok (.iload_n 2, 1) := by decide +kernel
theorem d_cpc4_47 : decode jdk_52_method_11_code 47 = .ok (.iconst 1, 1) := by decide +kernel
theorem d_cpc4_48 : decode jdk_52_method_11_code 48 = .ok (.isub, 1) := by decide +kernel
theorem d_cpc4_49 : decode jdk_52_method_11_code 49 = .ok (.if_icmp .ge 39, 3) := by decide +kernel
theorem d_cpc4_52 : decode jdk_52_method_11_code 52 = .ok (.aload_n 0, 1) := by decide +kernel
theorem d_cpc4_53 : decode jdk_52_method_11_code 53 = .ok (.iload 5, 2) := by decide +kernel
theorem d_cpc4_55 : decode jdk_52_method_11_code 55 = .ok (.iinc 5 1, 3) := by decide +kernel
theorem d_cpc4_58 : decode jdk_52_method_11_code 58 = .ok (.invokestatic 71, 3) := by decide +kernel
theorem d_cpc4_61 : decode jdk_52_method_11_code 61 = .ok (.invokestatic 75, 3) := by decide +kernel
theorem d_cpc4_64 : decode jdk_52_method_11_code 64 = .ok (.ifCond .eq (-20), 3) := by decide +kernel
theorem d_cpc4_67 : decode jdk_52_method_11_code 67 = .ok (.aload_n 0, 1) := by decide +kernel
theorem d_cpc4_68 : decode jdk_52_method_11_code 68 = .ok (.iload 5, 2) := by decide +kernel
theorem d_cpc4_70 : decode jdk_52_method_11_code 70 = .ok (.invokestatic 71, 3) := by decide +kernel
theorem d_cpc4_73 : decode jdk_52_method_11_code 73 = .ok (.invokestatic 81, 3) := by decide +kernel
theorem d_cpc4_76 : decode jdk_52_method_11_code 76 = .ok (.ifCond .eq (-32), 3) := by decide +kernel
theorem d_cpc4_79 : decode jdk_52_method_11_code 79 = .ok (.iinc 4 (-1), 3) := by decide +kernel
theorem d_cpc4_82 : decode jdk_52_method_11_code 82 = .ok (.iinc 5 1, 3) := by decide +kernel
theorem d_cpc4_85 : decode jdk_52_method_11_code 85 = .ok (.goto (-41), 3) := by decide +kernel
theorem d_cpc4_88 : decode jdk_52_method_11_code 88 = .ok (.iload 4, 2) := by decide +kernel
theorem d_cpc4_90 : decode jdk_52_method_11_code 90 = .ok (.ireturn, 1) := by decide +kernel
theorem d_cpc3_0 : decode jdk_52_method_12_code 0 = .ok (.aload_n 0, 1) := by decide +kernel
theorem d_cpc3_1 : decode jdk_52_method_12_code 1 = .ok (.iload_n 1, 1) := by decide +kernel
theorem d_cpc3_2 : decode jdk_52_method_12_code 2 = .ok (.iload_n 2, 1) := by decide +kernel
theorem d_cpc3_3 : decode jdk_52_method_12_code 3 = .ok (.iconst 0, 1) := by decide +kernel
theorem d_cpc3_4 : decode jdk_52_method_12_code 4 = .ok (.invokestatic 100, 3) := by decide +kernel
theorem d_cpc3_7 : decode jdk_52_method_12_code 7 = .ok (.ireturn, 1) := by decide +kernel
theorem d_toby_0 : decode jdk_52_method_14_code 0 = .ok (.iload_n 2, 1) := by decide +kernel
theorem d_toby_1 : decode jdk_52_method_14_code 1 = .ok (.invokestatic 107, 3) := by decide +kernel
theorem d_toby_4 : decode jdk_52_method_14_code 4 = .ok (.astore_n 3, 1) := by decide +kernel
theorem d_toby_5 : decode jdk_52_method_14_code 5 = .ok (.iconst 0, 1) := by decide +kernel
theorem d_toby_6 : decode jdk_52_method_14_code 6 = .ok (.istore 4, 2) := by decide +kernel
theorem d_toby_8 : decode jdk_52_method_14_code 8 = .ok (.iload 4, 2) := by decide +kernel
theorem d_toby_10 : decode jdk_52_method_14_code 10 = .ok (.iload_n 2, 1) := by decide +kernel
theorem d_toby_11 : decode jdk_52_method_14_code 11 = .ok (.if_icmp .ge 21, 3) := by decide +kernel
theorem d_toby_14 : decode jdk_52_method_14_code 14 = .ok (.aload_n 3, 1) := by decide +kernel
theorem d_toby_15 : decode jdk_52_method_14_code 15 = .ok (.iload 4, 2) := by decide +kernel
theorem d_toby_17 : decode jdk_52_method_14_code 17 = .ok (.aload_n 0, 1) := by decide +kernel
theorem d_toby_18 : decode jdk_52_method_14_code 18 = .ok (.iload_n 1, 1) := by decide +kernel
theorem d_toby_19 : decode jdk_52_method_14_code 19 = .ok (.caload, 1) := by decide +kernel
theorem d_toby_20 : decode jdk_52_method_14_code 20 = .ok (.invokestatic 111, 3) := by decide +kernel
theorem d_toby_23 : decode jdk_52_method_14_code 23 = .ok (.iinc 1 1, 3) := by decide +kernel
theorem d_toby_26 : decode jdk_52_method_14_code 26 = .ok (.iinc 4 1, 3) := by decide +kernel
theorem d_toby_29 : decode jdk_52_method_14_code 29 = .ok (.goto (-21), 3) := by decide +kernel
theorem d_toby_32 : decode jdk_52_method_14_code 32 = .ok (.aload_n 3, 1) := by decide +kernel
theorem d_toby_33 : decode jdk_52_method_14_code 33 = .ok (.areturn, 1) := by decide +kernel
theorem d_cfal_0 : decode jdk_52_method_15_code 0 = .ok (.iload_n 1, 1) := by decide +kernel
theorem d_cfal_1 : decode jdk_52_method_15_code 1 = .ok (.aload_n 0, 1) := by decide +kernel
theorem d_cfal_2 : decode jdk_52_method_15_code 2 = .ok (.arraylength, 1) := by decide +kernel
theorem d_cfal_3 : decode jdk_52_method_15_code 3 = .ok (.isub, 1) := by decide +kernel
theorem d_cfal_4 : decode jdk_52_method_15_code 4 = .ok (.bipush 31, 2) := by decide +kernel
theorem d_cfal_6 : decode jdk_52_method_15_code 6 = .ok (.iushr, 1) := by decide +kernel
theorem d_cfal_7 : decode jdk_52_method_15_code 7 = .ok (.i2b, 1) := by decide +kernel
theorem d_cfal_8 : decode jdk_52_method_15_code 8 = .ok (.ireturn, 1) := by decide +kernel
theorem d_cmp3_0 : decode jdk_52_method_16_code 0 = .ok (.iload_n 2, 1) := by decide +kernel
theorem d_cmp3_1 : decode jdk_52_method_16_code 1 = .ok (.newarray .byte, 2) := by decide +kernel
theorem d_cmp3_3 : decode jdk_52_method_16_code 3 = .ok (.astore_n 3, 1) := by decide +kernel
theorem d_cmp3_4 : decode jdk_52_method_16_code 4 = .ok (.aload_n 0, 1) := by decide +kernel
theorem d_cmp3_5 : decode jdk_52_method_16_code 5 = .ok (.iload_n 1, 1) := by decide +kernel
theorem d_cmp3_6 : decode jdk_52_method_16_code 6 = .ok (.aload_n 3, 1) := by decide +kernel
theorem d_cmp3_7 : decode jdk_52_method_16_code 7 = .ok (.iconst 0, 1) := by decide +kernel
theorem d_cmp3_8 : decode jdk_52_method_16_code 8 = .ok (.iload_n 2, 1) := by decide +kernel
theorem d_cmp3_9 : decode jdk_52_method_16_code 9 = .ok (.invokestatic 115, 3) := by decide +kernel
theorem d_cmp3_12 : decode jdk_52_method_16_code 12 = .ok (.istore 4, 2) := by decide +kernel
theorem d_cmp3_14 : decode jdk_52_method_16_code 14 = .ok (.iload 4, 2) := by decide +kernel
theorem d_cmp3_16 : decode jdk_52_method_16_code 16 = .ok (.iload_n 2, 1) := by decide +kernel
theorem d_cmp3_17 : decode jdk_52_method_16_code 17 = .ok (.if_icmp .eq 40, 3) := by decide +kernel
theorem d_cmp3_20 : decode jdk_52_method_16_code 20 = .ok (.aload_n 0, 1) := by decide +kernel
theorem d_cmp3_21 : decode jdk_52_method_16_code 21 = .ok (.iload_n 1, 1) := by decide +kernel
theorem d_cmp3_22 : decode jdk_52_method_16_code 22 = .ok (.iload_n 2, 1) := by decide +kernel
theorem d_cmp3_23 : decode jdk_52_method_16_code 23 = .ok (.invokestatic 119, 3) := by decide +kernel
theorem d_cmp3_26 : decode jdk_52_method_16_code 26 = .ok (.astore 5, 2) := by decide +kernel
theorem d_cmp3_28 : decode jdk_52_method_16_code 28 = .ok (.aload 5, 2) := by decide +kernel
theorem d_cmp3_30 : decode jdk_52_method_16_code 30 = .ok (.iload 4, 2) := by decide +kernel
theorem d_cmp3_32 : decode jdk_52_method_16_code 32 = .ok (.invokestatic 71, 3) := by decide +kernel
theorem d_cmp3_35 : decode jdk_52_method_16_code 35 = .ok (.sipush 255, 3) := by decide +kernel
theorem d_cmp3_38 : decode jdk_52_method_16_code 38 = .ok (.if_icmp .gt 16, 3) := by decide +kernel
theorem d_cmp3_54 : decode jdk_52_method_16_code 54 = .ok (.aload 5, 2) := by decide +kernel
theorem d_cmp3_56 : decode jdk_52_method_16_code 56 = .ok (.areturn, 1) := by decide +kernel
theorem d_cmp3_57 : decode jdk_52_method_16_code 57 = .ok (.aload_n 3, 1) := by decide +kernel
theorem d_cmp3_58 : decode jdk_52_method_16_code 58 = .ok (.areturn, 1) := by decide +kernel
theorem d_cmp5_0 : decode jdk_52_method_21_code 0 = .ok (.iconst 0, 1) := by decide +kernel
theorem d_cmp5_1 : decode jdk_52_method_21_code 1 = .ok (.istore 5, 2) := by decide +kernel
theorem d_cmp5_3 : decode jdk_52_method_21_code 3 = .ok (.iload 5, 2) := by decide +kernel
theorem d_cmp5_5 : decode jdk_52_method_21_code 5 = .ok (.iload 4, 2) := by decide +kernel
theorem d_cmp5_7 : decode jdk_52_method_21_code 7 = .ok (.if_icmp .ge 37, 3) := by decide +kernel
theorem d_cmp5_10 : decode jdk_52_method_21_code 10 = .ok (.aload_n 0, 1) := by decide +kernel
theorem d_cmp5_11 : decode jdk_52_method_21_code 11 = .ok (.iload_n 1, 1) := by decide +kernel
theorem d_cmp5_12 : decode jdk_52_method_21_code 12 = .ok (.caload, 1) := by decide +kernel
theorem d_cmp5_13 : decode jdk_52_method_21_code 13 = .ok (.istore 6, 2) := by decide +kernel
theorem d_cmp5_15 : decode jdk_52_method_21_code 15 = .ok (.iload 6, 2) := by decide +kernel
theorem d_cmp5_17 : decode jdk_52_method_21_code 17 = .ok (.sipush 255, 3) := by decide +kernel
theorem d_cmp5_20 : decode jdk_52_method_21_code 20 = .ok (.if_icmp .le 6, 3) := by decide +kernel
theorem d_cmp5_23 : decode jdk_52_method_21_code 23 = .ok (.iload 5, 2) := by decide +kernel
theorem d_cmp5_25 : decode jdk_52_method_21_code 25 = .ok (.ireturn, 1) := by decide +kernel
theorem d_cmp5_26 : decode jdk_52_method_21_code 26 = .ok (.aload_n 2, 1) := by decide +kernel
theorem d_cmp5_27 : decode jdk_52_method_21_code 27 = .ok (.iload_n 3, 1) := by decide +kernel
theorem d_cmp5_28 : decode jdk_52_method_21_code 28 = .ok (.iload 6, 2) := by decide +kernel
theorem d_cmp5_30 : decode jdk_52_method_21_code 30 = .ok (.i2b, 1) := by decide +kernel
theorem d_cmp5_31 : decode jdk_52_method_21_code 31 = .ok (.bastore, 1) := by decide +kernel
theorem d_cmp5_32 : decode jdk_52_method_21_code 32 = .ok (.iinc 1 1, 3) := by decide +kernel
theorem d_cmp5_35 : decode jdk_52_method_21_code 35 = .ok (.iinc 3 1, 3) := by decide +kernel
theorem d_cmp5_38 : decode jdk_52_method_21_code 38 = .ok (.iinc 5 1, 3) := by decide +kernel
theorem d_cmp5_41 : decode jdk_52_method_21_code 41 = .ok (.goto (-38), 3) := by decide +kernel
theorem d_cmp5_44 : decode jdk_52_method_21_code 44 = .ok (.iload 4, 2) := by decide +kernel
theorem d_cmp5_46 : decode jdk_52_method_21_code 46 = .ok (.ireturn, 1) := by decide +kernel
theorem d_nbf_0 : decode jdk_52_method_2_code 0 = .ok (.iload_n 0, 1) := by decide +kernel
theorem d_nbf_1 : decode jdk_52_method_2_code 1 = .ok (.invokestatic 11, 3) := by decide +kernel
theorem d_nbf_4 : decode jdk_52_method_2_code 4 = .ok (.newarray .byte, 2) := by decide +kernel
theorem d_nbf_6 : decode jdk_52_method_2_code 6 = .ok (.areturn, 1) := by decide +kernel
theorem d_nbl_0 : decode jdk_52_method_3_code 0 = .ok (.iload_n 0, 1) := by decide +kernel
theorem d_nbl_1 : decode jdk_52_method_3_code 1 = .ok (.ifCond .ge 11, 3) := by decide +kernel
theorem d_nbl_12 : decode jdk_52_method_3_code 12 = .ok (.iload_n 0, 1) := by decide +kernel
theorem d_nbl_13 : decode jdk_52_method_3_code 13 = .ok (.ldc 20, 2) := by decide +kernel
theorem d_nbl_15 : decode jdk_52_method_3_code 15 = .ok (.if_icmp .lt 40, 3) := by decide +kernel
theorem d_nbl_55 : decode jdk_52_method_3_code 55 = .ok (.iload_n 0, 1) := by decide +kernel
theorem d_nbl_56 : decode jdk_52_method_3_code 56 = .ok (.iconst 1, 1) := by decide +kernel
theorem d_nbl_57 : decode jdk_52_method_3_code 57 = .ok (.ishl, 1) := by decide +kernel
theorem d_nbl_58 : decode jdk_52_method_3_code 58 = .ok (.ireturn, 1) := by decide +kernel
theorem d_uidx_0 : decode jdk_52_method_40_code 0 = .ok (.iload_n 2, 1) := by decide +kernel
theorem d_uidx_1 : decode jdk_52_method_40_code 1 = .ok (.iconst 0, 1) := by decide +kernel
theorem d_uidx_2 : decode jdk_52_method_40_code 2 = .ok (.invokestatic 224, 3) := by decide +kernel
theorem d_uidx_5 : decode jdk_52_method_40_code 5 = .ok (.istore_n 2, 1) := by decide +kernel
theorem d_uidx_6 : decode jdk_52_method_40_code 6 = .ok (.iload_n 3, 1) := by decide +kernel
theorem d_uidx_7 : decode jdk_52_method_40_code 7 = .ok (.aload_n 0, 1) := by decide +kernel
theorem d_uidx_8 : decode jdk_52_method_40_code 8 = .ok (.arraylength, 1) := by decide +kernel
theorem d_uidx_9 : decode jdk_52_method_40_code 9 = .ok (.iconst 1, 1) := by decide +kernel
theorem d_uidx_10 : decode jdk_52_method_40_code 10 = .ok (.ishr, 1) := by decide +kernel
theorem d_uidx_11 : decode jdk_52_method_40_code 11 = .ok (.invokestatic 183, 3) := by decide +kernel
theorem d_uidx_14 : decode jdk_52_method_40_code 14 = .ok (.istore_n 3, 1) := by decide +kernel
theorem d_uidx_15 : decode jdk_52_method_40_code 15 = .ok (.iload_n 2, 1) := by decide +kernel
theorem d_uidx_16 : decode jdk_52_method_40_code 16 = .ok (.iload_n 3, 1) := by decide +kernel
theorem d_uidx_17 : decode jdk_52_method_40_code 17 = .ok (.if_icmp .lt 5, 3) := by decide +kernel
theorem d_uidx_22 : decode jdk_52_method_40_code 22 = .ok (.iload_n 1, 1) := by decide +kernel
theorem d_uidx_23 : decode jdk_52_method_40_code 23 = .ok (.ldc 227, 2) := by decide +kernel
theorem d_uidx_25 : decode jdk_52_method_40_code 25 = .ok (.if_icmp .ge 11, 3) := by decide +kernel
theorem d_uidx_28 : decode jdk_52_method_40_code 28 = .ok (.aload_n 0, 1) := by decide +kernel
theorem d_uidx_29 : decode jdk_52_method_40_code 29 = .ok (.iload_n 1, 1) := by decide +kernel
theorem d_uidx_30 : decode jdk_52_method_40_code 30 = .ok (.iload_n 2, 1) := by decide +kernel
theorem d_uidx_31 : decode jdk_52_method_40_code 31 = .ok (.iload_n 3, 1) := by decide +kernel
theorem d_uidx_32 : decode jdk_52_method_40_code 32 = .ok (.invokestatic 228, 3) := by decide +kernel
theorem d_uidx_35 : decode jdk_52_method_40_code 35 = .ok (.ireturn, 1) := by decide +kernel
theorem d_uioc_0 : decode jdk_52_method_47_code 0 = .ok (.iload_n 2, 1) := by decide +kernel
theorem d_uioc_1 : decode jdk_52_method_47_code 1 = .ok (.iload_n 3, 1) := by decide +kernel
theorem d_uioc_2 : decode jdk_52_method_47_code 2 = .ok (.aload_n 0, 1) := by decide +kernel
theorem d_uioc_3 : decode jdk_52_method_47_code 3 = .ok (.invokestatic 96, 3) := by decide +kernel
theorem d_uioc_6 : decode jdk_52_method_47_code 6 = .ok (.aload_n 0, 1) := by decide +kernel
theorem d_uioc_7 : decode jdk_52_method_47_code 7 = .ok (.iload_n 1, 1) := by decide +kernel
theorem d_uioc_8 : decode jdk_52_method_47_code 8 = .ok (.iload_n 2, 1) := by decide +kernel
theorem d_uioc_9 : decode jdk_52_method_47_code 9 = .ok (.iload_n 3, 1) := by decide +kernel
theorem d_uioc_10 : decode jdk_52_method_47_code 10 = .ok (.invokestatic 244, 3) := by decide +kernel
theorem d_uioc_13 : decode jdk_52_method_47_code 13 = .ok (.ireturn, 1) := by decide +kernel
theorem d_iocu_0 : decode jdk_52_method_48_code 0 = .ok (.iload_n 2, 1) := by decide +kernel
theorem d_iocu_1 : decode jdk_52_method_48_code 1 = .ok (.istore 4, 2) := by decide +kernel
theorem d_iocu_3 : decode jdk_52_method_48_code 3 = .ok (.iload 4, 2) := by decide +kernel
theorem d_iocu_5 : decode jdk_52_method_48_code 5 = .ok (.iload_n 3, 1) := by decide +kernel
theorem d_iocu_6 : decode jdk_52_method_48_code 6 = .ok (.if_icmp .ge 22, 3) := by decide +kernel
theorem d_iocu_9 : decode jdk_52_method_48_code 9 = .ok (.aload_n 0, 1) := by decide +kernel
theorem d_iocu_10 : decode jdk_52_method_48_code 10 = .ok (.iload 4, 2) := by decide +kernel
theorem d_iocu_12 : decode jdk_52_method_48_code 12 = .ok (.invokestatic 71, 3) := by decide +kernel
theorem d_iocu_15 : decode jdk_52_method_48_code 15 = .ok (.iload_n 1, 1) := by decide +kernel
theorem d_iocu_16 : decode jdk_52_method_48_code 16 = .ok (.if_icmp .ne 6, 3) := by decide +kernel
theorem d_iocu_22 : decode jdk_52_method_48_code 22 = .ok (.iinc 4 1, 3) := by decide +kernel
theorem d_iocu_25 : decode jdk_52_method_48_code 25 = .ok (.goto (-22), 3) := by decide +kernel
theorem d_iocu_28 : decode jdk_52_method_48_code 28 = .ok (.iconst (-1), 1) := by decide +kernel
theorem d_iocu_29 : decode jdk_52_method_48_code 29 = .ok (.ireturn, 1) := by decide +kernel
theorem d_putc_0 : decode jdk_52_method_4_code 0 = .ok (.getstatic 44, 3) := by decide +kernel
theorem d_putc_3 : decode jdk_52_method_4_code 3 = .ok (.ifCond .ne 25, 3) := by decide +kernel
theorem d_putc_28 : decode jdk_52_method_4_code 28 = .ok (.iload_n 1, 1) := by decide +kernel
theorem d_putc_29 : decode jdk_52_method_4_code 29 = .ok (.iconst 1, 1) := by decide +kernel
theorem d_putc_30 : decode jdk_52_method_4_code 30 = .ok (.ishl, 1) := by decide +kernel
theorem d_putc_31 : decode jdk_52_method_4_code 31 = .ok (.istore_n 1, 1) := by decide +kernel
theorem d_putc_32 : decode jdk_52_method_4_code 32 = .ok (.aload_n 0, 1) := by decide +kernel
theorem d_putc_33 : decode jdk_52_method_4_code 33 = .ok (.iload_n 1, 1) := by decide +kernel
theorem d_putc_34 : decode jdk_52_method_4_code 34 = .ok (.iinc 1 1, 3) := by decide +kernel
theorem d_putc_37 : decode jdk_52_method_4_code 37 = .ok (.iload_n 2, 1) := by decide +kernel
theorem d_putc_38 : decode jdk_52_method_4_code 38 = .ok (.getstatic 59, 3) := by decide +kernel
theorem d_putc_41 : decode jdk_52_method_4_code 41 = .ok (.ishr, 1) := by decide +kernel
theorem d_putc_42 : decode jdk_52_method_4_code 42 = .ok (.i2b, 1) := by decide +kernel
theorem d_putc_43 : decode jdk_52_method_4_code 43 = .ok (.bastore, 1) := by decide +kernel
theorem d_putc_44 : decode jdk_52_method_4_code 44 = .ok (.aload_n 0, 1) := by decide +kernel
theorem d_putc_45 : decode jdk_52_method_4_code 45 = .ok (.iload_n 1, 1) := by decide +kernel
theorem d_putc_46 : decode jdk_52_method_4_code 46 = .ok (.iload_n 2, 1) := by decide +kernel
theorem d_putc_47 : decode jdk_52_method_4_code 47 = .ok (.getstatic 63, 3) := by decide +kernel
theorem d_putc_50 : decode jdk_52_method_4_code 50 = .ok (.ishr, 1) := by decide +kernel
theorem d_putc_51 : decode jdk_52_method_4_code 51 = .ok (.i2b, 1) := by decide +kernel
theorem d_putc_52 : decode jdk_52_method_4_code 52 = .ok (.bastore, 1) := by decide +kernel
theorem d_putc_53 : decode jdk_52_method_4_code 53 = .ok (.return_, 1) := by decide +kernel
theorem d_getc_0 : decode jdk_52_method_5_code 0 = .ok (.getstatic 44, 3) := by decide +kernel
theorem d_getc_3 : decode jdk_52_method_5_code 3 = .ok (.ifCond .ne 25, 3) := by decide +kernel
theorem d_getc_28 : decode jdk_52_method_5_code 28 = .ok (.iload_n 1, 1) := by decide +kernel
theorem d_getc_29 : decode jdk_52_method_5_code 29 = .ok (.iconst 1, 1) := by decide +kernel
theorem d_getc_30 : decode jdk_52_method_5_code 30 = .ok (.ishl, 1) := by decide +kernel
theorem d_getc_31 : decode jdk_52_method_5_code 31 = .ok (.istore_n 1, 1) := by decide +kernel
theorem d_getc_32 : decode jdk_52_method_5_code 32 = .ok (.aload_n 0, 1) := by decide +kernel
theorem d_getc_33 : decode jdk_52_method_5_code 33 = .ok (.iload_n 1, 1) := by decide +kernel
theorem d_getc_34 : decode jdk_52_method_5_code 34 = .ok (.iinc 1 1, 3) := by decide +kernel
theorem d_getc_37 : decode jdk_52_method_5_code 37 = .ok (.baload, 1) := by decide +kernel
theorem d_getc_38 : decode jdk_52_method_5_code 38 = .ok (.sipush 255, 3) := by decide +kernel
theorem d_getc_41 : decode jdk_52_method_5_code 41 = .ok (.iand, 1) := by decide +kernel
theorem d_getc_42 : decode jdk_52_method_5_code 42 = .ok (.getstatic 59, 3) := by decide +kernel
theorem d_getc_45 : decode jdk_52_method_5_code 45 = .ok (.ishl, 1) := by decide +kernel
theorem d_getc_46 : decode jdk_52_method_5_code 46 = .ok (.aload_n 0, 1) := by decide +kernel
theorem d_getc_47 : decode jdk_52_method_5_code 47 = .ok (.iload_n 1, 1) := by decide +kernel
theorem d_getc_48 : decode jdk_52_method_5_code 48 = .ok (.baload, 1) := by decide +kernel
theorem d_getc_49 : decode jdk_52_method_5_code 49 = .ok (.sipush 255, 3) := by decide +kernel
theorem d_getc_52 : decode jdk_52_method_5_code 52 = .ok (.iand, 1) := by decide +kernel
theorem d_getc_53 : decode jdk_52_method_5_code 53 = .ok (.getstatic 63, 3) := by decide +kernel
theorem d_getc_56 : decode jdk_52_method_5_code 56 = .ok (.ishl, 1) := by decide +kernel
theorem d_getc_57 : decode jdk_52_method_5_code 57 = .ok (.ior, 1) := by decide +kernel
theorem d_getc_58 : decode jdk_52_method_5_code 58 = .ok (.i2c, 1) := by decide +kernel
theorem d_getc_59 : decode jdk_52_method_5_code 59 = .ok (.ireturn, 1) := by decide +kernel
theorem d_ulen_0 : decode jdk_52_method_6_code 0 = .ok (.aload_n 0, 1) := by decide +kernel
theorem d_ulen_1 : decode jdk_52_method_6_code 1 = .ok (.arraylength, 1) := by decide +kernel
theorem d_ulen_2 : decode jdk_52_method_6_code 2 = .ok (.iconst 1, 1) := by decide +kernel
theorem d_ulen_3 : decode jdk_52_method_6_code 3 = .ok (.ishr, 1) := by decide +kernel
theorem d_ulen_4 : decode jdk_52_method_6_code 4 = .ok (.ireturn, 1) := by decide +kernel
theorem d_ubbe_0 : decode jdk_52_method_93_code 0 = .ok (.iload_n 0, 1) := by decide +kernel
theorem d_ubbe_1 : decode jdk_52_method_93_code 1 = .ok (.iload_n 1, 1) := by decide +kernel
theorem d_ubbe_2 : decode jdk_52_method_93_code 2 = .ok (.aload_n 2, 1) := by decide +kernel
theorem d_ubbe_3 : decode jdk_52_method_93_code 3 = .ok (.invokestatic 48, 3) := by decide +kernel
theorem d_ubbe_6 : decode jdk_52_method_93_code 6 = .ok (.invokestatic 241, 3) := by decide +kernel
theorem d_ubbe_9 : decode jdk_52_method_93_code 9 = .ok (.return_, 1) := by decide +kernel
theorem d_ihs_0 : decode jdk_89_method_14_code 0 = .ok (.iload_n 0, 1) := by decide +kernel
theorem d_ihs_1 : decode jdk_89_method_14_code 1 = .ok (.ldc 75, 2) := by decide +kernel
theorem d_ihs_3 : decode jdk_89_method_14_code 3 = .ok (.if_icmp .lt 13, 3) := by decide +kernel
theorem d_ihs_6 : decode jdk_89_method_14_code 6 = .ok (.iload_n 0, 1) := by decide +kernel
theorem d_ihs_7 : decode jdk_89_method_14_code 7 = .ok (.ldc 76, 2) := by decide +kernel
theorem d_ihs_9 : decode jdk_89_method_14_code 9 = .ok (.if_icmp .ge 7, 3) := by decide +kernel
theorem d_ihs_12 : decode jdk_89_method_14_code 12 = .ok (.iconst 1, 1) := by decide +kernel
theorem d_ihs_13 : decode jdk_89_method_14_code 13 = .ok (.goto 4, 3) := by decide +kernel
theorem d_ihs_16 : decode jdk_89_method_14_code 16 = .ok (.iconst 0, 1) := by decide +kernel
theorem d_ihs_17 : decode jdk_89_method_14_code 17 = .ok (.ireturn, 1) := by decide +kernel
theorem d_ils_0 : decode jdk_89_method_15_code 0 = .ok (.iload_n 0, 1) := by decide +kernel
theorem d_ils_1 : decode jdk_89_method_15_code 1 = .ok (.ldc 76, 2) := by decide +kernel
theorem d_ils_3 : decode jdk_89_method_15_code 3 = .ok (.if_icmp .lt 13, 3) := by decide +kernel
theorem d_ils_6 : decode jdk_89_method_15_code 6 = .ok (.iload_n 0, 1) := by decide +kernel
theorem d_ils_7 : decode jdk_89_method_15_code 7 = .ok (.ldc 77, 2) := by decide +kernel
theorem d_ils_9 : decode jdk_89_method_15_code 9 = .ok (.if_icmp .ge 7, 3) := by decide +kernel
theorem d_ils_12 : decode jdk_89_method_15_code 12 = .ok (.iconst 1, 1) := by decide +kernel
theorem d_ils_13 : decode jdk_89_method_15_code 13 = .ok (.goto 4, 3) := by decide +kernel
theorem d_ils_16 : decode jdk_89_method_15_code 16 = .ok (.iconst 0, 1) := by decide +kernel
theorem d_ils_17 : decode jdk_89_method_15_code 17 = .ok (.ireturn, 1) := by decide +kernel
theorem d_draw_0 : decode method_2_code 0 = .ok (.iload_n 0, 1) := by decide +kernel
theorem d_draw_1 : decode method_2_code 1 = .ok (.iconst 3, 1) := by decide +kernel
theorem d_draw_2 : decode method_2_code 2 = .ok (.iand, 1) := by decide +kernel
theorem d_draw_3 : decode method_2_code 3 = .ok (.istore_n 1, 1) := by decide +kernel
theorem d_draw_4 : decode method_2_code 4 = .ok (.iload_n 0, 1) := by decide +kernel
theorem d_draw_5 : decode method_2_code 5 = .ok (.iconst 2, 1) := by decide +kernel
theorem d_draw_6 : decode method_2_code 6 = .ok (.iushr, 1) := by decide +kernel
theorem d_draw_7 : decode method_2_code 7 = .ok (.istore_n 2, 1) := by decide +kernel
theorem d_draw_8 : decode method_2_code 8 = .ok (.iload_n 1, 1) := by decide +kernel
theorem d_draw_9 : decode method_2_code 9 = .ok (.ifCond .ne 13, 3) := by decide +kernel
theorem d_draw_12 : decode method_2_code 12 = .ok (.ldc 7, 2) := by decide +kernel
theorem d_draw_14 : decode method_2_code 14 = .ok (.iload_n 2, 1) := by decide +kernel
theorem d_draw_15 : decode method_2_code 15 = .ok (.sipush 1023, 3) := by decide +kernel
theorem d_draw_18 : decode method_2_code 18 = .ok (.iand, 1) := by decide +kernel
theorem d_draw_19 : decode method_2_code 19 = .ok (.iadd, 1) := by decide +kernel
theorem d_draw_20 : decode method_2_code 20 = .ok (.i2c, 1) := by decide +kernel
theorem d_draw_21 : decode method_2_code 21 = .ok (.ireturn, 1) := by decide +kernel
theorem d_draw_22 : decode method_2_code 22 = .ok (.iload_n 1, 1) := by decide +kernel
theorem d_draw_23 : decode method_2_code 23 = .ok (.iconst 1, 1) := by decide +kernel
theorem d_draw_24 : decode method_2_code 24 = .ok (.if_icmp .ne 13, 3) := by decide +kernel
theorem d_draw_27 : decode method_2_code 27 = .ok (.ldc 8, 2) := by decide +kernel
theorem d_draw_29 : decode method_2_code 29 = .ok (.iload_n 2, 1) := by decide +kernel
theorem d_draw_30 : decode method_2_code 30 = .ok (.sipush 1023, 3) := by decide +kernel
theorem d_draw_33 : decode method_2_code 33 = .ok (.iand, 1) := by decide +kernel
theorem d_draw_34 : decode method_2_code 34 = .ok (.iadd, 1) := by decide +kernel
theorem d_draw_35 : decode method_2_code 35 = .ok (.i2c, 1) := by decide +kernel
theorem d_draw_36 : decode method_2_code 36 = .ok (.ireturn, 1) := by decide +kernel
theorem d_draw_37 : decode method_2_code 37 = .ok (.iload_n 2, 1) := by decide +kernel
theorem d_draw_38 : decode method_2_code 38 = .ok (.ldc 9, 2) := by decide +kernel
theorem d_draw_40 : decode method_2_code 40 = .ok (.iand, 1) := by decide +kernel
theorem d_draw_41 : decode method_2_code 41 = .ok (.i2c, 1) := by decide +kernel
theorem d_draw_42 : decode method_2_code 42 = .ok (.ireturn, 1) := by decide +kernel
theorem d_high_0 : decode method_3_code 0 = .ok (.iload_n 0, 1) := by decide +kernel
theorem d_high_1 : decode method_3_code 1 = .ok (.ldc 7, 2) := by decide +kernel
theorem d_high_3 : decode method_3_code 3 = .ok (.if_icmp .lt 13, 3) := by decide +kernel
theorem d_high_6 : decode method_3_code 6 = .ok (.iload_n 0, 1) := by decide +kernel
theorem d_high_7 : decode method_3_code 7 = .ok (.ldc 10, 2) := by decide +kernel
theorem d_high_9 : decode method_3_code 9 = .ok (.if_icmp .gt 7, 3) := by decide +kernel
theorem d_high_12 : decode method_3_code 12 = .ok (.iconst 1, 1) := by decide +kernel
theorem d_high_13 : decode method_3_code 13 = .ok (.goto 4, 3) := by decide +kernel
theorem d_high_16 : decode method_3_code 16 = .ok (.iconst 0, 1) := by decide +kernel
theorem d_high_17 : decode method_3_code 17 = .ok (.ireturn, 1) := by decide +kernel
theorem d_lowc_0 : decode method_4_code 0 = .ok (.iload_n 0, 1) := by decide +kernel
theorem d_lowc_1 : decode method_4_code 1 = .ok (.ldc 8, 2) := by decide +kernel
theorem d_lowc_3 : decode method_4_code 3 = .ok (.if_icmp .lt 13, 3) := by decide +kernel
theorem d_lowc_6 : decode method_4_code 6 = .ok (.iload_n 0, 1) := by decide +kernel
theorem d_lowc_7 : decode method_4_code 7 = .ok (.ldc 11, 2) := by decide +kernel
theorem d_lowc_9 : decode method_4_code 9 = .ok (.if_icmp .gt 7, 3) := by decide +kernel
theorem d_lowc_12 : decode method_4_code 12 = .ok (.iconst 1, 1) := by decide +kernel
theorem d_lowc_13 : decode method_4_code 13 = .ok (.goto 4, 3) := by decide +kernel
theorem d_lowc_16 : decode method_4_code 16 = .ok (.iconst 0, 1) := by decide +kernel
theorem d_lowc_17 : decode method_4_code 17 = .ok (.ireturn, 1) := by decide +kernel
theorem d_pair_0 : decode method_5_code 0 = .ok (.iload_n 0, 1) := by decide +kernel
theorem d_pair_1 : decode method_5_code 1 = .ok (.invokestatic 12, 3) := by decide +kernel
theorem d_pair_4 : decode method_5_code 4 = .ok (.ifCond .eq 14, 3) := by decide +kernel
theorem d_pair_7 : decode method_5_code 7 = .ok (.iload_n 1, 1) := by decide +kernel
theorem d_pair_8 : decode method_5_code 8 = .ok (.invokestatic 18, 3) := by decide +kernel
theorem d_pair_11 : decode method_5_code 11 = .ok (.ifCond .eq 7, 3) := by decide +kernel
theorem d_pair_14 : decode method_5_code 14 = .ok (.iconst 1, 1) := by decide +kernel
theorem d_pair_15 : decode method_5_code 15 = .ok (.goto 4, 3) := by decide +kernel
theorem d_pair_18 : decode method_5_code 18 = .ok (.iconst 0, 1) := by decide +kernel
theorem d_pair_19 : decode method_5_code 19 = .ok (.ireturn, 1) := by decide +kernel
theorem d_nchk_0 : decode prog_16_method_2_code 0 = .ok (.aload_n 0, 1) := by decide +kernel
theorem d_nchk_1 : decode prog_16_method_2_code 1 = .ok (.aload_n 1, 1) := by decide +kernel
theorem d_nchk_2 : decode prog_16_method_2_code 2 = .ok (.invokestatic 7, 3) := by decide +kernel
theorem d_nchk_5 : decode prog_16_method_2_code 5 = .ok (.pop, 1) := by decide +kernel
theorem d_nchk_6 : decode prog_16_method_2_code 6 = .ok (.aload_n 0, 1) := by decide +kernel
theorem d_nchk_7 : decode prog_16_method_2_code 7 = .ok (.iconst 0, 1) := by decide +kernel
theorem d_nchk_8 : decode prog_16_method_2_code 8 = .ok (.aload_n 0, 1) := by decide +kernel
theorem d_nchk_9 : decode prog_16_method_2_code 9 = .ok (.invokevirtual 13, 3) := by decide +kernel
theorem d_nchk_12 : decode prog_16_method_2_code 12 = .ok (.invokevirtual 19, 3) := by decide +kernel
theorem d_nchk_15 : decode prog_16_method_2_code 15 = .ok (.istore_n 3, 1) := by decide +kernel
theorem d_nchk_16 : decode prog_16_method_2_code 16 = .ok (.iload_n 3, 1) := by decide +kernel
theorem d_nchk_17 : decode prog_16_method_2_code 17 = .ok (.ifCond .eq 8, 3) := by decide +kernel
theorem d_nchk_20 : decode prog_16_method_2_code 20 = .ok (.iload_n 3, 1) := by decide +kernel
theorem d_nchk_21 : decode prog_16_method_2_code 21 = .ok (.iload_n 2, 1) := by decide +kernel
theorem d_nchk_22 : decode prog_16_method_2_code 22 = .ok (.if_icmp .le 20, 3) := by decide +kernel
theorem d_nchk_42 : decode prog_16_method_2_code 42 = .ok (.aload_n 0, 1) := by decide +kernel
theorem d_nchk_43 : decode prog_16_method_2_code 43 = .ok (.iconst 0, 1) := by decide +kernel
theorem d_nchk_44 : decode prog_16_method_2_code 44 = .ok (.invokevirtual 32, 3) := by decide +kernel
theorem d_nchk_47 : decode prog_16_method_2_code 47 = .ok (.ifCond .lt 25, 3) := by decide +kernel
theorem d_nchk_72 : decode prog_16_method_2_code 72 = .ok (.aload_n 0, 1) := by decide +kernel
theorem d_nchk_73 : decode prog_16_method_2_code 73 = .ok (.areturn, 1) := by decide +kernel
/-- a char's low byte, signed: what a Latin-1 String holds of it -/
def b8 (c : Int32) : Int32 := c.toInt8.toInt32
theorem b8_b8 (c : Int32) : (b8 c).toInt8.toInt32 = b8 c := by simp [b8]
theorem set_next {f : Int32 → Value} {cs : List Int32} {i k : Nat} {z : Value} (hi : i < cs.length) : ((cs.take i).map f ++ List.replicate (k + 1) z).set i (f cs[i]) = (cs.take (i + 1)).map f ++ List.replicate k z := by
  have hl : ((cs.take i).map f).length = i := by simp; omega
  have e : (cs.take (i + 1)).map f = (cs.take i).map f ++ [f cs[i]] := by
    rw [List.take_add_one, List.getElem?_eq_getElem hi, List.map_append]; rfl
  rw [List.set_append_right _ _ (by omega), hl, Nat.sub_self, List.replicate_succ, List.set_cons_zero, e, List.append_assoc]; rfl
theorem hcs0 : ∀ d ∈ ([] : List Int32), ¬ d < 0 ∧ ¬ 255 < d := fun d hd => nomatch hd
theorem hcsC {c : Int32} {cs : List Int32} (p : ¬ c < 0 ∧ ¬ 255 < c) (q : ∀ d ∈ cs, ¬ d < 0 ∧ ¬ 255 < d) : ∀ d ∈ c :: cs, ¬ d < 0 ∧ ¬ 255 < d := fun d hd => (List.mem_cons.mp hd).elim (fun e => e ▸ p) (q d)
theorem sub1 {a : Addr} {sf : List Addr} (h : a ∈ sf) : ∀ z ∈ [a], z ∈ sf := fun z hz => by cases List.mem_singleton.mp hz; exact h
theorem sub0 {sf : List Addr} : ∀ z ∈ ([] : List Addr), z ∈ sf := fun z hz => nomatch hz
theorem shr0 (n : Int32) : n >>> ((0 : Int32) &&& 31) = n := by
  rw [show ((0 : Int32) &&& 31) = 0 by decide]
  apply Int32.toBitVec_inj.mp
  simp
theorem shl0 (n : Int32) : n <<< ((0 : Int32) &&& 31) = n := by
  rw [show ((0 : Int32) &&& 31) = 0 by decide]
  apply Int32.toBitVec_inj.mp
  simp
theorem ofNat_inj {m n : Nat} (hm : m < 2147483648) (hn : n < 2147483648) (q : Int32.ofNat m = Int32.ofNat n) : m = n := by
  have := congrArg Int32.toInt q
  rw [toInt_of rfl (by omega), toInt_of rfl (by omega)] at this
  omega
/-- the high byte of a char -/
def hib (c : Int32) : Int32 := b8 (c >>> ((8 : Int32) &&& 31))
/-- the bytes of a UTF-16 value array -/
def u16 : List Int32 → List Value
  | [] => []
  | c :: cs => .int (b8 c) :: .int (hib c) :: u16 cs
theorem u16_len : ∀ cs : List Int32, (u16 cs).length = 2 * cs.length
  | [] => rfl
  | c :: cs => by have := u16_len cs; show (u16 cs).length + 1 + 1 = 2 * (cs.length + 1); omega
theorem u16_lo : ∀ (cs : List Int32) (i : Nat) (hi : i < cs.length), (u16 cs)[2 * i]? = some (.int (b8 cs[i]))
  | c :: cs, 0, _ => rfl
  | c :: cs, i + 1, hi => by
    have := u16_lo cs i (Nat.lt_of_succ_lt_succ hi)
    rw [show 2 * (i + 1) = 2 * i + 1 + 1 by omega]
    exact this
theorem u16_hi : ∀ (cs : List Int32) (i : Nat) (hi : i < cs.length), (u16 cs)[2 * i + 1]? = some (.int (hib cs[i]))
  | c :: cs, 0, _ => rfl
  | c :: cs, i + 1, hi => by
    have := u16_hi cs i (Nat.lt_of_succ_lt_succ hi)
    rw [show 2 * (i + 1) + 1 = 2 * i + 1 + 1 + 1 by omega]
    exact this
theorem u16_app : ∀ as bs : List Int32, u16 (as ++ bs) = u16 as ++ u16 bs
  | [], _ => rfl
  | a :: as, bs => by
    show Value.int (b8 a) :: .int (hib a) :: u16 (as ++ bs) = Value.int (b8 a) :: .int (hib a) :: (u16 as ++ u16 bs)
    rw [u16_app as bs]
theorem set2 {L R : List Value} {p q z z' : Value} {n : Nat} (h : L.length = n) : ((L ++ z :: z' :: R).set n p).set (n + 1) q = L ++ p :: q :: R := by
  subst h
  rw [List.set_append_right _ _ (Nat.le_refl _), Nat.sub_self, List.set_cons_zero, List.set_append_right _ _ (by omega), show L.length + 1 - L.length = 1 by omega]
  rfl
theorem u16_next {cs : List Int32} {i k : Nat} (hi : i < cs.length) : ((u16 (cs.take i) ++ List.replicate (2 * (k + 1)) (Value.int 0)).set (2 * i) (.int (b8 cs[i]))).set (2 * i + 1) (.int (hib cs[i])) = u16 (cs.take (i + 1)) ++ List.replicate (2 * k) (.int 0) := by
  have hl : (u16 (cs.take i)).length = 2 * i := by rw [u16_len, List.length_take]; omega
  rw [show 2 * (k + 1) = 2 * k + 1 + 1 by omega, List.replicate_succ, List.replicate_succ, set2 hl, List.take_add_one, List.getElem?_eq_getElem hi, u16_app]
  simp [u16]
/-- a char -/
def Chr (c : Int32) : Prop := 0 ≤ c.toInt ∧ c.toInt < 65536
def CHL (cs : List Int32) : Prop := ∀ c ∈ cs, Chr c
theorem chr_i2c (y : Int32) : Chr y.toUInt32.toUInt16.toUInt32.toInt32 := ⟨(c_i2c y).2.1, (c_i2c y).2.2⟩
theorem Chr.nar {c : Int32} (h : Chr c) : c.toUInt32.toUInt16.toUInt32.toInt32 = c := by
  have z := c_i2c c
  obtain ⟨h1, h2⟩ := h
  rw [← Int32.toInt_inj]
  omega
theorem Chr.nrc {c : Int32} (h : Chr c) : narrow .char (.int c) = .int c := congrArg Value.int h.nar
theorem Chr.nn {c : Int32} (h : Chr c) : ¬ c < 0 := by
  have e : (0 : Int32).toInt = 0 := by decide
  have := h.1
  rw [Int32.lt_iff_toInt_lt, e]
  omega
/-- a char out of its two bytes -/
theorem getc {c : Int32} (h : Chr c) : ((b8 c &&& 255) ||| ((hib c &&& 255) <<< ((8 : Int32) &&& 31))).toUInt32.toUInt16.toUInt32.toInt32 = c := by
  obtain ⟨h1, h2⟩ := h
  have e1 := c_mask (b8 c) 255 8 (by omega) (by decide)
  have e2 := c_i2b c
  have f0 := c_ishr c 8 8 (by decide)
  have f1 := c_i2b (c >>> ((8 : Int32) &&& 31))
  have f2 := c_mask (hib c) 255 8 (by omega) (by decide)
  have f3 := c_ishl (hib c &&& 255) 8 8 (by decide)
  have r3 := rng32 ((hib c &&& 255) <<< ((8 : Int32) &&& 31))
  have p8 : ((2 ^ 8 : Nat) : Int) = 256 := by decide
  rw [p8] at e1 f0 f2 f3
  have u1 : (b8 c &&& 255).toInt = c.toInt % 256 := by rw [e1]; unfold b8; omega
  have u2 : (hib c &&& 255).toInt = c.toInt / 256 := by rw [f2]; unfold hib b8; omega
  have u3 : ((hib c &&& 255) <<< ((8 : Int32) &&& 31)).toInt = c.toInt / 256 * 256 := by rw [u2] at f3; omega
  have g := c_or' (b8 c &&& 255) ((hib c &&& 255) <<< ((8 : Int32) &&& 31)) 8 (by omega) 256 (by decide) (by rw [u3]; omega) (by rw [u1]; omega) (by rw [u1]; omega)
  have r4 := rng32 ((b8 c &&& 255) ||| ((hib c &&& 255) <<< ((8 : Int32) &&& 31)))
  have z := c_i2c ((b8 c &&& 255) ||| ((hib c &&& 255) <<< ((8 : Int32) &&& 31)))
  rw [u1, u3] at g
  rw [← Int32.toInt_inj]
  omega
theorem shl1 {i : Nat} (h : i < 1073741824) : Int32.ofNat i <<< ((1 : Int32) &&& 31) = Int32.ofNat (2 * i) := by
  have h1 := c_ishl (Int32.ofNat i) 1 1 (by decide)
  have h2 := rng32 (Int32.ofNat i <<< ((1 : Int32) &&& 31))
  have p1 : ((2 ^ 1 : Nat) : Int) = 2 := by decide
  rw [toInt_of (n := Int32.ofNat i) rfl (by omega), p1] at h1
  rw [← Int32.toInt_inj, toInt_of (n := Int32.ofNat (2 * i)) rfl (by omega)]
  omega
theorem shr1 {i : Nat} (h : i < 1073741824) : Int32.ofNat (2 * i) >>> ((1 : Int32) &&& 31) = Int32.ofNat i := by
  have h1 := c_ishr (Int32.ofNat (2 * i)) 1 1 (by decide)
  have p1 : ((2 ^ 1 : Nat) : Int) = 2 := by decide
  rw [toInt_of (n := Int32.ofNat (2 * i)) rfl (by omega), p1] at h1
  rw [← Int32.toInt_inj, toInt_of (n := Int32.ofNat i) rfl (by omega)]
  omega
theorem pred_ofNat {n : Nat} (h0 : 0 < n) (h : n < 2147483648) : Int32.ofNat n - 1 = Int32.ofNat (n - 1) := by
  have h1 := c_isub (Int32.ofNat n) 1
  have h2 := rng32 (Int32.ofNat n - 1)
  have e : (1 : Int32).toInt = 1 := by decide
  rw [toInt_of (n := Int32.ofNat n) rfl (by omega), e] at h1
  rw [← Int32.toInt_inj, toInt_of (n := Int32.ofNat (n - 1)) rfl (by omega)]
  omega
theorem dec_ofNat {n : Nat} (h0 : 0 < n) (h : n < 2147483648) : Int32.ofNat n + Int32.ofInt (-1) = Int32.ofNat (n - 1) := by
  have h1 := c_iadd (Int32.ofNat n) (Int32.ofInt (-1))
  have h2 := rng32 (Int32.ofNat n + Int32.ofInt (-1))
  have e : (Int32.ofInt (-1)).toInt = -1 := by decide
  rw [toInt_of (n := Int32.ofNat n) rfl (by omega), e] at h1
  rw [← Int32.toInt_inj, toInt_of (n := Int32.ofNat (n - 1)) rfl (by omega)]
  omega
theorem lt_ofNat {m n : Nat} (h : m < n) (hn : n < 2147483648) : Int32.ofNat m < Int32.ofNat n := by
  rw [Int32.lt_iff_toInt_lt, toInt_of (n := Int32.ofNat m) rfl (by omega), toInt_of (n := Int32.ofNat n) rfl (by omega)]; omega
theorem nlt_ofNat {m n : Nat} (h : n ≤ m) (hm : m < 2147483648) : ¬ Int32.ofNat m < Int32.ofNat n := by
  rw [Int32.lt_iff_toInt_lt, toInt_of (n := Int32.ofNat m) rfl (by omega), toInt_of (n := Int32.ofNat n) rfl (by omega)]; omega
theorem neg_ushr {n : Nat} (h0 : 0 < n) (h1 : n ≤ 4) : ((Int32.ofNat n - Int32.ofNat (2 * n)).toUInt32 >>> ((31 : Int32) &&& 31).toUInt32).toInt32 = 1 := by
  have h : n = 1 ∨ n = 2 ∨ n = 3 ∨ n = 4 := by omega
  rcases h with rfl | rfl | rfl | rfl <;> decide
def i2cF (y : Int32) : Int32 := y.toUInt32.toUInt16.toUInt32.toInt32
/-- draw -/
def dr (p : Int32) : Int32 := if p &&& 3 = 0 then i2cF (55296 + (XT.ushr p 2 &&& 1023)) else if p &&& 3 = 1 then i2cF (56320 + (XT.ushr p 2 &&& 1023)) else i2cF (XT.ushr p 2 &&& 65535)
theorem chr_dr (p : Int32) : Chr (dr p) := by
  unfold dr
  split
  · exact chr_i2c _
  · split
    · exact chr_i2c _
    · exact chr_i2c _
def hiB (c : Int32) : Bool := !decide (c < 55296) && !decide ((56319 : Int32) < c)
def loB (c : Int32) : Bool := !decide (c < 56320) && !decide ((57343 : Int32) < c)
def b01 (b : Bool) : Int32 := if b then 1 else 0
theorem b01_t {b : Bool} (h : b = true) : b01 b = 1 := by subst h; rfl
theorem b01_f {b : Bool} (h : b = false) : b01 b = 0 := by subst h; rfl
theorem nar_b01 (b : Bool) : narrow .boolean (.int (b01 b)) = .int (b01 b) := by cases b <;> rfl
theorem lim {c k k' : Int32} (h : k'.toInt = k.toInt + 1) : k < c ↔ ¬ c < k' := by rw [Int32.lt_iff_toInt_lt, Int32.lt_iff_toInt_lt, h]; omega
theorem hi_f1 {c : Int32} (h : c < 55296) : hiB c = false := by simp [hiB, h]
theorem hi_f2 {c : Int32} (h : (56319 : Int32) < c) : hiB c = false := by simp [hiB, h]
theorem hi_t {c : Int32} (h1 : ¬ c < 55296) (h2 : ¬ (56319 : Int32) < c) : hiB c = true := by simp [hiB, h1, h2]
theorem lo_f1 {c : Int32} (h : c < 56320) : loB c = false := by simp [loB, h]
theorem lo_f2 {c : Int32} (h : (57343 : Int32) < c) : loB c = false := by simp [loB, h]
theorem lo_t {c : Int32} (h1 : ¬ c < 56320) (h2 : ¬ (57343 : Int32) < c) : loB c = true := by simp [loB, h1, h2]
theorem lo_hi {c : Int32} (h : loB c = true) : hiB c = false := by
  have q : ¬ c < 56320 := fun z => by rw [lo_f1 z] at h; cases h
  exact hi_f2 ((lim (by decide)).mpr q)
/-- how many adjacent pairs of surrogates -/
def cpn : List Int32 → Nat
  | a :: b :: r => (if hiB a && loB b then 1 else 0) + cpn (b :: r)
  | _ => 0
theorem cpn2 (a b : Int32) (r : List Int32) : cpn (a :: b :: r) = (if hiB a && loB b then 1 else 0) + cpn (b :: r) := by first | rfl | rw [cpn]
theorem cpn_lt : ∀ cs : List Int32, 0 < cs.length → cpn cs < cs.length
  | [_], _ => Nat.zero_lt_one
  | a :: b :: r, _ => by
    have := cpn_lt (b :: r) (Nat.succ_pos _)
    rw [cpn2, List.length_cons]
    split <;> omega
theorem cpn_no {cs : List Int32} {i : Nat} (hi : i + 1 < cs.length) (h : (hiB cs[i] && loB cs[i + 1]) = false) : cpn (cs.drop i) = cpn (cs.drop (i + 1)) := by
  rw [List.drop_eq_getElem_cons (show i < cs.length by omega), List.drop_eq_getElem_cons hi, cpn2, h]
  simp
theorem cpn_low {cs : List Int32} {i : Nat} (hi : i < cs.length) (h : loB cs[i] = true) : cpn (cs.drop i) = cpn (cs.drop (i + 1)) := by
  by_cases q : i + 1 < cs.length
  · exact cpn_no q (by rw [lo_hi h]; rfl)
  · rw [List.drop_eq_getElem_cons hi, List.drop_eq_nil_of_le (show cs.length ≤ i + 1 by omega)]
    rfl
theorem cpn_yes {cs : List Int32} {i : Nat} (hi : i + 1 < cs.length) (h1 : hiB cs[i] = true) (h2 : loB cs[i + 1] = true) : cpn (cs.drop i) = 1 + cpn (cs.drop (i + 2)) := by
  rw [← cpn_low hi h2, List.drop_eq_getElem_cons (show i < cs.length by omega), List.drop_eq_getElem_cons hi, cpn2, h1, h2]
  simp
theorem cpn_end {cs : List Int32} {i : Nat} (hi : cs.length ≤ i + 1) : cpn (cs.drop i) = 0 := by
  by_cases q : i < cs.length
  · rw [List.drop_eq_getElem_cons q, List.drop_eq_nil_of_le hi]; rfl
  · rw [List.drop_eq_nil_of_le (show cs.length ≤ i by omega)]; rfl
/-- all chars are Latin-1 -/
abbrev Lat (cs : List Int32) : Prop := ∀ c ∈ cs, ¬ (255 : Int32) < c
def cdr (cs : List Int32) : Int32 := if Lat cs then 0 else 1
theorem cpn_lat : ∀ cs : List Int32, Lat cs → cpn cs = 0
  | [], _ => rfl
  | [_], _ => rfl
  | a :: b :: r, h => by
    have h1 := h a (List.mem_cons_self ..)
    have q : hiB a = false := hi_f1 (by
      rw [Int32.lt_iff_toInt_lt] at h1 ⊢
      have e1 : (255 : Int32).toInt = 255 := by decide
      have e2 : (55296 : Int32).toInt = 55296 := by decide
      omega)
    rw [cpn2, q, cpn_lat (b :: r) fun c hc => h c (List.mem_cons_of_mem _ hc)]
    simp
theorem b8_nz {c : Int32} (h : Chr c) (h1 : ¬ (255 : Int32) < c) (h2 : ¬ c = 0) : ¬ b8 c = b8 0 := fun q => by
  have e := c_i2b c
  have e0 : (b8 0).toInt = 0 := by decide
  have e1 : (255 : Int32).toInt = 255 := by decide
  have e2 : (0 : Int32).toInt = 0 := by decide
  have q1 := congrArg Int32.toInt q
  rw [e0] at q1
  unfold b8 at q1
  obtain ⟨a1, a2⟩ := h
  rw [Int32.lt_iff_toInt_lt] at h1
  rw [← Int32.toInt_inj] at h2
  omega
theorem max_ge {a b r : Int32} (h : r = if a < b then b else a) : ¬ r < b := by
  subst h
  by_cases q : a < b
  · rw [if_pos q, Int32.lt_iff_toInt_lt]; omega
  · rw [if_neg q]; exact q
theorem and3 (p : Int32) : p &&& 3 = 0 ∨ p &&& 3 = 1 ∨ p &&& 3 = 2 ∨ p &&& 3 = 3 := by
  have h := c_mask p 3 2 (by omega) (by decide)
  have p2 : ((2 ^ 2 : Nat) : Int) = 4 := by decide
  rw [p2] at h
  have e0 : (0 : Int32).toInt = 0 := by decide
  have e1 : (1 : Int32).toInt = 1 := by decide
  have e2 : (2 : Int32).toInt = 2 := by decide
  have e3 : (3 : Int32).toInt = 3 := by decide
  rw [← Int32.toInt_inj, ← Int32.toInt_inj, ← Int32.toInt_inj, ← Int32.toInt_inj]
  omega
theorem cnt1 (c0 : Int32) : (1 : Int32) = Int32.ofNat ([c0].length - cpn [c0]) := rfl
theorem cnt2 (c0 c1 : Int32) : (2 : Int32) - b01 (hiB c0 && loB c1) = Int32.ofNat ([c0, c1].length - cpn [c0, c1]) := by
  show _ = Int32.ofNat (2 - ((if hiB c0 && loB c1 then 1 else 0) + 0))
  cases hiB c0 && loB c1 <;> decide
theorem cnt3 (c0 c1 c2 : Int32) : (3 : Int32) - b01 (hiB c0 && loB c1) - b01 (hiB c1 && loB c2) = Int32.ofNat ([c0, c1, c2].length - cpn [c0, c1, c2]) := by
  show _ = Int32.ofNat (3 - ((if hiB c0 && loB c1 then 1 else 0) + ((if hiB c1 && loB c2 then 1 else 0) + 0)))
  cases hiB c0 && loB c1 <;> cases hiB c1 && loB c2 <;> decide
theorem cnt4 (c0 c1 c2 c3 : Int32) : (4 : Int32) - b01 (hiB c0 && loB c1) - b01 (hiB c1 && loB c2) - b01 (hiB c2 && loB c3) = Int32.ofNat ([c0, c1, c2, c3].length - cpn [c0, c1, c2, c3]) := by
  show _ = Int32.ofNat (4 - ((if hiB c0 && loB c1 then 1 else 0) + ((if hiB c1 && loB c2 then 1 else 0) + ((if hiB c2 && loB c3 then 1 else 0) + 0))))
  cases hiB c0 && loB c1 <;> cases hiB c1 && loB c2 <;> cases hiB c2 && loB c3 <;> decide
/-- a String of the chars cs -/
def SS (Z : State) (h : Heap) (a : Addr) (cs : List Int32) : Prop := ∃ t, Exa Z h a ST ∧ Fld Z h a ST "value" "[B" (.ref t) ∧
  ((Lat cs ∧ Fld Z h a ST "coder" "B" (.int 0) ∧ Ar Z h t .byte ((cs.map b8).map Value.int)) ∨ (¬ Lat cs ∧ Fld Z h a ST "coder" "B" (.int 1) ∧ Ar Z h t .byte (u16 cs)))
theorem SS.ext {Z : State} {h h' : Heap} {a : Addr} {cs : List Int32} (F : SS Z h a cs) (E : Ext h h') : SS Z h' a cs := by
  obtain ⟨t, q1, q2, q3⟩ := F
  exact ⟨t, q1.ext E, q2.ext E, q3.imp (fun q => ⟨q.1, q.2.1.ext E, q.2.2.ext E⟩) (fun q => ⟨q.1, q.2.1.ext E, q.2.2.ext E⟩)⟩
theorem sta_eq {args : Array Value} {Z : State} {C n d : String} {z : Int32} (h : (Jvm.Cond.eq (.static C n d) (.int z)).before args Z = true) (hi : (Jvm.Cond.initializedFor C n d).before args Z = true) : Sta Z Z.heap C n d (.int z) := by
  obtain ⟨w, h1, h2⟩ := Cond.eq_one (show (Jvm.Cond.eq (.static C n d) (.int z)).holds args Z none Z [] = true from h)
  have e : w = .int z := Option.some.inj (h2.symm.trans (Term.int_eval z))
  subst e
  exact Sta.start h1 (Or.inl hi)
def b_draw : Bx := (({ frames := 0, cells := 0, slots := 0, locals := 0 } : Room), (⟨"com/example/lavoro/lavoro/NamesCheckPinLaw", "draw", "(I)C"⟩ : MethodName), method_2_code, 3, (Option.some Jvm.ClassFile.FieldType.char))
theorem ef_draw (p : Int32) (mI : MethodId) : entryFrame mI #[.int p] 3 = mkF mI 0 #[.val (.int p), .unset, .unset] [] := by first | (simp [entryFrame, mkF, argsToLocals, Value.category]; done) | rfl
theorem pn_com_example_lavoro_lavoro_NamesCheckPinLaw : plainName "com/example/lavoro/lavoro/NamesCheckPinLaw" = true := by first | (simp [plainName, overriddenIn]; done) | decide +kernel
theorem pd_draw : parseMethodDescriptor "(I)C" = some ⟨[.int], some .char⟩ := by decide +kernel
set_option maxRecDepth 65536 in
set_option maxHeartbeats 4000000 in
theorem ct_draw {a0 : Array Value} {Z : State} (hw : ∀ d ∈ tables_1, d.before a0 Z = true) (l : Launch) (nar kn : Bool) (hnr : nar = false) (h0 : Heap) (p : Int32) :
    Ct l Z EL1 (⟨"com/example/lavoro/lavoro/NamesCheckPinLaw", "draw", "(I)C"⟩ : MethodName) method_2_code 3 (Option.some Jvm.ClassFile.FieldType.char) ({ frames := 0, cells := 0, slots := 0, locals := 0 } : Room) #[.int p] h0 [] nar kn (fun v h sn => v = some (.int (dr p)) ∧ sn = [] ∧ h = h0) := by
  refine Ct.intro (plainFor_of_name pn_com_example_lavoro_lavoro_NamesCheckPinLaw) (ew hw) (ef_draw p) ?_
  intro x hl hn0 hkn hsf hh H0
  have hnar : x.nar = false := hn0.trans hnr
  have H0 : Hr x b_draw Z EL1 0 0 h0 [] 0 #[.val (.int p), .unset, .unset] [] := H0
  have H1 : Hr x b_draw Z EL1 0 0 h0 [] 1 #[.val (.int p), .unset, .unset] [.int p] := H0.iloadN d_draw_0
  have H2 : Hr x b_draw Z EL1 0 0 h0 [] 2 #[.val (.int p), .unset, .unset] [.int (3 : Int32), .int p] := H1.iconst d_draw_1
  have H3 : Hr x b_draw Z EL1 0 0 h0 [] 3 #[.val (.int p), .unset, .unset] [.int (p &&& (3 : Int32))] := H2.iand d_draw_2
  have H4 : Hr x b_draw Z EL1 0 0 h0 [] 4 #[.val (.int p), .val (.int (p &&& (3 : Int32))), .unset] [] := H3.istoreN d_draw_3
  have H5 : Hr x b_draw Z EL1 0 0 h0 [] 5 #[.val (.int p), .val (.int (p &&& (3 : Int32))), .unset] [.int p] := H4.iloadN d_draw_4
  have H6 : Hr x b_draw Z EL1 0 0 h0 [] 6 #[.val (.int p), .val (.int (p &&& (3 : Int32))), .unset] [.int (2 : Int32), .int p] := H5.iconst d_draw_5
  have H7 : Hr x b_draw Z EL1 0 0 h0 [] 7 #[.val (.int p), .val (.int (p &&& (3 : Int32))), .unset] [.int (XT.ushr p (2 : Int32))] := H6.iushr d_draw_6
  have H8 : Hr x b_draw Z EL1 0 0 h0 [] 8 #[.val (.int p), .val (.int (p &&& (3 : Int32))), .val (.int (XT.ushr p (2 : Int32)))] [] := H7.istoreN d_draw_7
  have H9 : Hr x b_draw Z EL1 0 0 h0 [] 9 #[.val (.int p), .val (.int (p &&& (3 : Int32))), .val (.int (XT.ushr p (2 : Int32)))] [.int (p &&& (3 : Int32))] := H8.iloadN d_draw_8
  by_cases q0 : p &&& 3 = 0
  · have z9 := q0
    have H10 : Hr x b_draw Z EL1 0 0 h0 [] 12 #[.val (.int p), .val (.int (p &&& (3 : Int32))), .val (.int (XT.ushr p (2 : Int32)))] [] := H9.ifF d_draw_9 (XT.i0_ne_f q0)
    have H11 : Hr x b_draw Z EL1 0 0 h0 [] 14 #[.val (.int p), .val (.int (p &&& (3 : Int32))), .val (.int (XT.ushr p (2 : Int32)))] [.int (55296 : Int32)] := H10.ldcI (w5 hw) d_draw_12
    have H12 : Hr x b_draw Z EL1 0 0 h0 [] 15 #[.val (.int p), .val (.int (p &&& (3 : Int32))), .val (.int (XT.ushr p (2 : Int32)))] [.int (XT.ushr p (2 : Int32)), .int (55296 : Int32)] := H11.iloadN d_draw_14
    have H13 : Hr x b_draw Z EL1 0 0 h0 [] 18 #[.val (.int p), .val (.int (p &&& (3 : Int32))), .val (.int (XT.ushr p (2 : Int32)))] [.int (1023 : Int32), .int (XT.ushr p (2 : Int32)), .int (55296 : Int32)] := H12.sipush d_draw_15
    have H14 : Hr x b_draw Z EL1 0 0 h0 [] 19 #[.val (.int p), .val (.int (p &&& (3 : Int32))), .val (.int (XT.ushr p (2 : Int32)))] [.int ((XT.ushr p (2 : Int32)) &&& (1023 : Int32)), .int (55296 : Int32)] := H13.iand d_draw_18
    have H15 : Hr x b_draw Z EL1 0 0 h0 [] 20 #[.val (.int p), .val (.int (p &&& (3 : Int32))), .val (.int (XT.ushr p (2 : Int32)))] [.int ((55296 : Int32) + ((XT.ushr p (2 : Int32)) &&& (1023 : Int32)))] := H14.iadd d_draw_19
    have H16 : Hr x b_draw Z EL1 0 0 h0 [] 21 #[.val (.int p), .val (.int (p &&& (3 : Int32))), .val (.int (XT.ushr p (2 : Int32)))] [.int (((55296 : Int32) + ((XT.ushr p (2 : Int32)) &&& (1023 : Int32))).toUInt32.toUInt16.toUInt32.toInt32)] := H15.i2c d_draw_20
    exact H16.finZ d_draw_21 (t := .char) (Chr.nrc (chr_i2c _)) ⟨by unfold dr; rw [if_pos q0]; rfl, rfl, rfl⟩ sub0
  · have z16 := q0
    have H17 : Hr x b_draw Z EL1 0 0 h0 [] 22 #[.val (.int p), .val (.int (p &&& (3 : Int32))), .val (.int (XT.ushr p (2 : Int32)))] [] := H9.ifT d_draw_9 (XT.i0_ne_t q0)
    have H18 : Hr x b_draw Z EL1 0 0 h0 [] 23 #[.val (.int p), .val (.int (p &&& (3 : Int32))), .val (.int (XT.ushr p (2 : Int32)))] [.int (p &&& (3 : Int32))] := H17.iloadN d_draw_22
    have H19 : Hr x b_draw Z EL1 0 0 h0 [] 24 #[.val (.int p), .val (.int (p &&& (3 : Int32))), .val (.int (XT.ushr p (2 : Int32)))] [.int (1 : Int32), .int (p &&& (3 : Int32))] := H18.iconst d_draw_23
    by_cases q1 : p &&& 3 = 1
    · have z19 := q1
      have H20 : Hr x b_draw Z EL1 0 0 h0 [] 27 #[.val (.int p), .val (.int (p &&& (3 : Int32))), .val (.int (XT.ushr p (2 : Int32)))] [] := H19.icmpF d_draw_24 (XT.ii_ne_f q1)
      have H21 : Hr x b_draw Z EL1 0 0 h0 [] 29 #[.val (.int p), .val (.int (p &&& (3 : Int32))), .val (.int (XT.ushr p (2 : Int32)))] [.int (56320 : Int32)] := H20.ldcI (w138 hw) d_draw_27
      have H22 : Hr x b_draw Z EL1 0 0 h0 [] 30 #[.val (.int p), .val (.int (p &&& (3 : Int32))), .val (.int (XT.ushr p (2 : Int32)))] [.int (XT.ushr p (2 : Int32)), .int (56320 : Int32)] := H21.iloadN d_draw_29
      have H23 : Hr x b_draw Z EL1 0 0 h0 [] 33 #[.val (.int p), .val (.int (p &&& (3 : Int32))), .val (.int (XT.ushr p (2 : Int32)))] [.int (1023 : Int32), .int (XT.ushr p (2 : Int32)), .int (56320 : Int32)] := H22.sipush d_draw_30
      have H24 : Hr x b_draw Z EL1 0 0 h0 [] 34 #[.val (.int p), .val (.int (p &&& (3 : Int32))), .val (.int (XT.ushr p (2 : Int32)))] [.int ((XT.ushr p (2 : Int32)) &&& (1023 : Int32)), .int (56320 : Int32)] := H23.iand d_draw_33
      have H25 : Hr x b_draw Z EL1 0 0 h0 [] 35 #[.val (.int p), .val (.int (p &&& (3 : Int32))), .val (.int (XT.ushr p (2 : Int32)))] [.int ((56320 : Int32) + ((XT.ushr p (2 : Int32)) &&& (1023 : Int32)))] := H24.iadd d_draw_34
      have H26 : Hr x b_draw Z EL1 0 0 h0 [] 36 #[.val (.int p), .val (.int (p &&& (3 : Int32))), .val (.int (XT.ushr p (2 : Int32)))] [.int (((56320 : Int32) + ((XT.ushr p (2 : Int32)) &&& (1023 : Int32))).toUInt32.toUInt16.toUInt32.toInt32)] := H25.i2c d_draw_35
      exact H26.finZ d_draw_36 (t := .char) (Chr.nrc (chr_i2c _)) ⟨by unfold dr; rw [if_neg q0, if_pos q1]; rfl, rfl, rfl⟩ sub0
    · have z26 := q1
      have H27 : Hr x b_draw Z EL1 0 0 h0 [] 37 #[.val (.int p), .val (.int (p &&& (3 : Int32))), .val (.int (XT.ushr p (2 : Int32)))] [] := H19.icmpT d_draw_24 (XT.ii_ne_t q1)
      have H28 : Hr x b_draw Z EL1 0 0 h0 [] 38 #[.val (.int p), .val (.int (p &&& (3 : Int32))), .val (.int (XT.ushr p (2 : Int32)))] [.int (XT.ushr p (2 : Int32))] := H27.iloadN d_draw_37
      have H29 : Hr x b_draw Z EL1 0 0 h0 [] 40 #[.val (.int p), .val (.int (p &&& (3 : Int32))), .val (.int (XT.ushr p (2 : Int32)))] [.int (65535 : Int32), .int (XT.ushr p (2 : Int32))] := H28.ldcI (w139 hw) d_draw_38
      have H30 : Hr x b_draw Z EL1 0 0 h0 [] 41 #[.val (.int p), .val (.int (p &&& (3 : Int32))), .val (.int (XT.ushr p (2 : Int32)))] [.int ((XT.ushr p (2 : Int32)) &&& (65535 : Int32))] := H29.iand d_draw_40
      have H31 : Hr x b_draw Z EL1 0 0 h0 [] 42 #[.val (.int p), .val (.int (p &&& (3 : Int32))), .val (.int (XT.ushr p (2 : Int32)))] [.int (((XT.ushr p (2 : Int32)) &&& (65535 : Int32)).toUInt32.toUInt16.toUInt32.toInt32)] := H30.i2c d_draw_41
      exact H31.finZ d_draw_42 (t := .char) (Chr.nrc (chr_i2c _)) ⟨by unfold dr; rw [if_neg q0, if_neg q1]; rfl, rfl, rfl⟩ sub0
def b_high : Bx := (({ frames := 0, cells := 0, slots := 0, locals := 0 } : Room), (⟨"com/example/lavoro/lavoro/NamesCheckPinLaw", "high", "(C)Z"⟩ : MethodName), method_3_code, 1, (Option.some Jvm.ClassFile.FieldType.boolean))
theorem ef_high (c : Int32) (mI : MethodId) : entryFrame mI #[.int c] 1 = mkF mI 0 #[.val (.int c)] [] := by first | (simp [entryFrame, mkF, argsToLocals, Value.category]; done) | rfl
theorem pd_high : parseMethodDescriptor "(C)Z" = some ⟨[.char], some .boolean⟩ := by decide +kernel
set_option maxRecDepth 65536 in
set_option maxHeartbeats 4000000 in
theorem ct_high {a0 : Array Value} {Z : State} (hw : ∀ d ∈ tables_1, d.before a0 Z = true) (l : Launch) (nar kn : Bool) (hnr : nar = false) (h0 : Heap) (c : Int32) :
    Ct l Z EL1 (⟨"com/example/lavoro/lavoro/NamesCheckPinLaw", "high", "(C)Z"⟩ : MethodName) method_3_code 1 (Option.some Jvm.ClassFile.FieldType.boolean) ({ frames := 0, cells := 0, slots := 0, locals := 0 } : Room) #[.int c] h0 [] nar kn (fun v h sn => v = some (.int (b01 (hiB c))) ∧ sn = [] ∧ h = h0) := by
  refine Ct.intro (plainFor_of_name pn_com_example_lavoro_lavoro_NamesCheckPinLaw) (ew hw) (ef_high c) ?_
  intro x hl hn0 hkn hsf hh H0
  have hnar : x.nar = false := hn0.trans hnr
  have H0 : Hr x b_high Z EL1 0 0 h0 [] 0 #[.val (.int c)] [] := H0
  have H1 : Hr x b_high Z EL1 0 0 h0 [] 1 #[.val (.int c)] [.int c] := H0.iloadN d_high_0
  have H2 : Hr x b_high Z EL1 0 0 h0 [] 3 #[.val (.int c)] [.int (55296 : Int32), .int c] := H1.ldcI (w5 hw) d_high_1
  by_cases q0 : c < 55296
  · have z31 := q0
    have H32 : Hr x b_high Z EL1 0 0 h0 [] 16 #[.val (.int c)] [] := H2.icmpT d_high_3 (XT.ii_lt_t q0)
    have H33 : Hr x b_high Z EL1 0 0 h0 [] 17 #[.val (.int c)] [.int (0 : Int32)] := H32.iconst d_high_16
    exact H33.finZ d_high_17 (t := .boolean) (by first | rfl | decide) ⟨by rw [b01_f (hi_f1 q0)], rfl, rfl⟩ sub0
  · have z33 := q0
    have H34 : Hr x b_high Z EL1 0 0 h0 [] 6 #[.val (.int c)] [] := H2.icmpF d_high_3 (XT.ii_lt_f q0)
    have H35 : Hr x b_high Z EL1 0 0 h0 [] 7 #[.val (.int c)] [.int c] := H34.iloadN d_high_6
    have H36 : Hr x b_high Z EL1 0 0 h0 [] 9 #[.val (.int c)] [.int (56319 : Int32), .int c] := H35.ldcI (w146 hw) d_high_7
    by_cases q1 : (56319 : Int32) < c
    · have z36 := q1
      have H37 : Hr x b_high Z EL1 0 0 h0 [] 16 #[.val (.int c)] [] := H36.icmpT d_high_9 (XT.ii_gt_t q1)
      have H38 : Hr x b_high Z EL1 0 0 h0 [] 17 #[.val (.int c)] [.int (0 : Int32)] := H37.iconst d_high_16
      exact H38.finZ d_high_17 (t := .boolean) (by first | rfl | decide) ⟨by rw [b01_f (hi_f2 q1)], rfl, rfl⟩ sub0
    · have z38 := q1
      have H39 : Hr x b_high Z EL1 0 0 h0 [] 12 #[.val (.int c)] [] := H36.icmpF d_high_9 (XT.ii_gt_f q1)
      have H40 : Hr x b_high Z EL1 0 0 h0 [] 13 #[.val (.int c)] [.int (1 : Int32)] := H39.iconst d_high_12
      have H41 : Hr x b_high Z EL1 0 0 h0 [] 17 #[.val (.int c)] [.int (1 : Int32)] := H40.goto d_high_13
      exact H41.finZ d_high_17 (t := .boolean) (by first | rfl | decide) ⟨by rw [b01_t (hi_t q0 q1)], rfl, rfl⟩ sub0
def b_lowc : Bx := (({ frames := 0, cells := 0, slots := 0, locals := 0 } : Room), (⟨"com/example/lavoro/lavoro/NamesCheckPinLaw", "low", "(C)Z"⟩ : MethodName), method_4_code, 1, (Option.some Jvm.ClassFile.FieldType.boolean))
theorem ef_lowc (c : Int32) (mI : MethodId) : entryFrame mI #[.int c] 1 = mkF mI 0 #[.val (.int c)] [] := by first | (simp [entryFrame, mkF, argsToLocals, Value.category]; done) | rfl
theorem pd_lowc : parseMethodDescriptor "(C)Z" = some ⟨[.char], some .boolean⟩ := by decide +kernel
set_option maxRecDepth 65536 in
set_option maxHeartbeats 4000000 in
theorem ct_lowc {a0 : Array Value} {Z : State} (hw : ∀ d ∈ tables_1, d.before a0 Z = true) (l : Launch) (nar kn : Bool) (hnr : nar = false) (h0 : Heap) (c : Int32) :
    Ct l Z EL1 (⟨"com/example/lavoro/lavoro/NamesCheckPinLaw", "low", "(C)Z"⟩ : MethodName) method_4_code 1 (Option.some Jvm.ClassFile.FieldType.boolean) ({ frames := 0, cells := 0, slots := 0, locals := 0 } : Room) #[.int c] h0 [] nar kn (fun v h sn => v = some (.int (b01 (loB c))) ∧ sn = [] ∧ h = h0) := by
  refine Ct.intro (plainFor_of_name pn_com_example_lavoro_lavoro_NamesCheckPinLaw) (ew hw) (ef_lowc c) ?_
  intro x hl hn0 hkn hsf hh H0
  have hnar : x.nar = false := hn0.trans hnr
  have H0 : Hr x b_lowc Z EL1 0 0 h0 [] 0 #[.val (.int c)] [] := H0
  have H1 : Hr x b_lowc Z EL1 0 0 h0 [] 1 #[.val (.int c)] [.int c] := H0.iloadN d_lowc_0
  have H2 : Hr x b_lowc Z EL1 0 0 h0 [] 3 #[.val (.int c)] [.int (56320 : Int32), .int c] := H1.ldcI (w138 hw) d_lowc_1
  by_cases q0 : c < 56320
  · have z41 := q0
    have H42 : Hr x b_lowc Z EL1 0 0 h0 [] 16 #[.val (.int c)] [] := H2.icmpT d_lowc_3 (XT.ii_lt_t q0)
    have H43 : Hr x b_lowc Z EL1 0 0 h0 [] 17 #[.val (.int c)] [.int (0 : Int32)] := H42.iconst d_lowc_16
    exact H43.finZ d_lowc_17 (t := .boolean) (by first | rfl | decide) ⟨by rw [b01_f (lo_f1 q0)], rfl, rfl⟩ sub0
  · have z43 := q0
    have H44 : Hr x b_lowc Z EL1 0 0 h0 [] 6 #[.val (.int c)] [] := H2.icmpF d_lowc_3 (XT.ii_lt_f q0)
    have H45 : Hr x b_lowc Z EL1 0 0 h0 [] 7 #[.val (.int c)] [.int c] := H44.iloadN d_lowc_6
    have H46 : Hr x b_lowc Z EL1 0 0 h0 [] 9 #[.val (.int c)] [.int (57343 : Int32), .int c] := H45.ldcI (w159 hw) d_lowc_7
    by_cases q1 : (57343 : Int32) < c
    · have z46 := q1
      have H47 : Hr x b_lowc Z EL1 0 0 h0 [] 16 #[.val (.int c)] [] := H46.icmpT d_lowc_9 (XT.ii_gt_t q1)
      have H48 : Hr x b_lowc Z EL1 0 0 h0 [] 17 #[.val (.int c)] [.int (0 : Int32)] := H47.iconst d_lowc_16
      exact H48.finZ d_lowc_17 (t := .boolean) (by first | rfl | decide) ⟨by rw [b01_f (lo_f2 q1)], rfl, rfl⟩ sub0
    · have z48 := q1
      have H49 : Hr x b_lowc Z EL1 0 0 h0 [] 12 #[.val (.int c)] [] := H46.icmpF d_lowc_9 (XT.ii_gt_f q1)
      have H50 : Hr x b_lowc Z EL1 0 0 h0 [] 13 #[.val (.int c)] [.int (1 : Int32)] := H49.iconst d_lowc_12
      have H51 : Hr x b_lowc Z EL1 0 0 h0 [] 17 #[.val (.int c)] [.int (1 : Int32)] := H50.goto d_lowc_13
      exact H51.finZ d_lowc_17 (t := .boolean) (by first | rfl | decide) ⟨by rw [b01_t (lo_t q0 q1)], rfl, rfl⟩ sub0
def b_ihs : Bx := (({ frames := 0, cells := 0, slots := 0, locals := 0 } : Room), (⟨"java/lang/Character", "isHighSurrogate", "(C)Z"⟩ : MethodName), jdk_89_method_14_code, 1, (Option.some Jvm.ClassFile.FieldType.boolean))
theorem ef_ihs (c : Int32) (mI : MethodId) : entryFrame mI #[.int c] 1 = mkF mI 0 #[.val (.int c)] [] := by first | (simp [entryFrame, mkF, argsToLocals, Value.category]; done) | rfl
theorem pn_java_lang_Character : plainName "java/lang/Character" = true := by first | (simp [plainName, overriddenIn]; done) | decide +kernel
theorem pd_ihs : parseMethodDescriptor "(C)Z" = some ⟨[.char], some .boolean⟩ := by decide +kernel
set_option maxRecDepth 65536 in
set_option maxHeartbeats 4000000 in
theorem ct_ihs {a0 : Array Value} {Z : State} (hw : ∀ d ∈ tables_1, d.before a0 Z = true) (l : Launch) (nar kn : Bool) (hnr : nar = false) (h0 : Heap) (c : Int32) :
    Ct l Z EL1 (⟨"java/lang/Character", "isHighSurrogate", "(C)Z"⟩ : MethodName) jdk_89_method_14_code 1 (Option.some Jvm.ClassFile.FieldType.boolean) ({ frames := 0, cells := 0, slots := 0, locals := 0 } : Room) #[.int c] h0 [] nar kn (fun v h sn => v = some (.int (b01 (hiB c))) ∧ sn = [] ∧ h = h0) := by
  refine Ct.intro (plainFor_of_name pn_java_lang_Character) (ew hw) (ef_ihs c) ?_
  intro x hl hn0 hkn hsf hh H0
  have hnar : x.nar = false := hn0.trans hnr
  have H0 : Hr x b_ihs Z EL1 0 0 h0 [] 0 #[.val (.int c)] [] := H0
  have H1 : Hr x b_ihs Z EL1 0 0 h0 [] 1 #[.val (.int c)] [.int c] := H0.iloadN d_ihs_0
  have H2 : Hr x b_ihs Z EL1 0 0 h0 [] 3 #[.val (.int c)] [.int (55296 : Int32), .int c] := H1.ldcI (w151 hw) d_ihs_1
  by_cases q0 : c < 55296
  · have z51 := q0
    have H52 : Hr x b_ihs Z EL1 0 0 h0 [] 16 #[.val (.int c)] [] := H2.icmpT d_ihs_3 (XT.ii_lt_t q0)
    have H53 : Hr x b_ihs Z EL1 0 0 h0 [] 17 #[.val (.int c)] [.int (0 : Int32)] := H52.iconst d_ihs_16
    exact H53.finZ d_ihs_17 (t := .boolean) (by first | rfl | decide) ⟨by rw [b01_f (hi_f1 q0)], rfl, rfl⟩ sub0
  · have z53 := q0
    have H54 : Hr x b_ihs Z EL1 0 0 h0 [] 6 #[.val (.int c)] [] := H2.icmpF d_ihs_3 (XT.ii_lt_f q0)
    have H55 : Hr x b_ihs Z EL1 0 0 h0 [] 7 #[.val (.int c)] [.int c] := H54.iloadN d_ihs_6
    have H56 : Hr x b_ihs Z EL1 0 0 h0 [] 9 #[.val (.int c)] [.int (56320 : Int32), .int c] := H55.ldcI (w152 hw) d_ihs_7
    by_cases q1 : (56319 : Int32) < c
    · have z56 := q1
      have H57 : Hr x b_ihs Z EL1 0 0 h0 [] 16 #[.val (.int c)] [] := H56.icmpT d_ihs_9 (XT.ii_ge_t ((lim (by decide)).mp q1))
      have H58 : Hr x b_ihs Z EL1 0 0 h0 [] 17 #[.val (.int c)] [.int (0 : Int32)] := H57.iconst d_ihs_16
      exact H58.finZ d_ihs_17 (t := .boolean) (by first | rfl | decide) ⟨by rw [b01_f (hi_f2 q1)], rfl, rfl⟩ sub0
    · have z58 := q1
      have H59 : Hr x b_ihs Z EL1 0 0 h0 [] 12 #[.val (.int c)] [] := H56.icmpF d_ihs_9 (XT.ii_ge_f (Decidable.byContradiction fun z => q1 ((lim (by decide)).mpr z)))
      have H60 : Hr x b_ihs Z EL1 0 0 h0 [] 13 #[.val (.int c)] [.int (1 : Int32)] := H59.iconst d_ihs_12
      have H61 : Hr x b_ihs Z EL1 0 0 h0 [] 17 #[.val (.int c)] [.int (1 : Int32)] := H60.goto d_ihs_13
      exact H61.finZ d_ihs_17 (t := .boolean) (by first | rfl | decide) ⟨by rw [b01_t (hi_t q0 q1)], rfl, rfl⟩ sub0
def b_ils : Bx := (({ frames := 0, cells := 0, slots := 0, locals := 0 } : Room), (⟨"java/lang/Character", "isLowSurrogate", "(C)Z"⟩ : MethodName), jdk_89_method_15_code, 1, (Option.some Jvm.ClassFile.FieldType.boolean))
theorem ef_ils (c : Int32) (mI : MethodId) : entryFrame mI #[.int c] 1 = mkF mI 0 #[.val (.int c)] [] := by first | (simp [entryFrame, mkF, argsToLocals, Value.category]; done) | rfl
theorem pd_ils : parseMethodDescriptor "(C)Z" = some ⟨[.char], some .boolean⟩ := by decide +kernel
set_option maxRecDepth 65536 in
set_option maxHeartbeats 4000000 in
theorem ct_ils {a0 : Array Value} {Z : State} (hw : ∀ d ∈ tables_1, d.before a0 Z = true) (l : Launch) (nar kn : Bool) (hnr : nar = false) (h0 : Heap) (c : Int32) :
    Ct l Z EL1 (⟨"java/lang/Character", "isLowSurrogate", "(C)Z"⟩ : MethodName) jdk_89_method_15_code 1 (Option.some Jvm.ClassFile.FieldType.boolean) ({ frames := 0, cells := 0, slots := 0, locals := 0 } : Room) #[.int c] h0 [] nar kn (fun v h sn => v = some (.int (b01 (loB c))) ∧ sn = [] ∧ h = h0) := by
  refine Ct.intro (plainFor_of_name pn_java_lang_Character) (ew hw) (ef_ils c) ?_
  intro x hl hn0 hkn hsf hh H0
  have hnar : x.nar = false := hn0.trans hnr
  have H0 : Hr x b_ils Z EL1 0 0 h0 [] 0 #[.val (.int c)] [] := H0
  have H1 : Hr x b_ils Z EL1 0 0 h0 [] 1 #[.val (.int c)] [.int c] := H0.iloadN d_ils_0
  have H2 : Hr x b_ils Z EL1 0 0 h0 [] 3 #[.val (.int c)] [.int (56320 : Int32), .int c] := H1.ldcI (w152 hw) d_ils_1
  by_cases q0 : c < 56320
  · have z61 := q0
    have H62 : Hr x b_ils Z EL1 0 0 h0 [] 16 #[.val (.int c)] [] := H2.icmpT d_ils_3 (XT.ii_lt_t q0)
    have H63 : Hr x b_ils Z EL1 0 0 h0 [] 17 #[.val (.int c)] [.int (0 : Int32)] := H62.iconst d_ils_16
    exact H63.finZ d_ils_17 (t := .boolean) (by first | rfl | decide) ⟨by rw [b01_f (lo_f1 q0)], rfl, rfl⟩ sub0
  · have z63 := q0
    have H64 : Hr x b_ils Z EL1 0 0 h0 [] 6 #[.val (.int c)] [] := H2.icmpF d_ils_3 (XT.ii_lt_f q0)
    have H65 : Hr x b_ils Z EL1 0 0 h0 [] 7 #[.val (.int c)] [.int c] := H64.iloadN d_ils_6
    have H66 : Hr x b_ils Z EL1 0 0 h0 [] 9 #[.val (.int c)] [.int (57344 : Int32), .int c] := H65.ldcI (w160 hw) d_ils_7
    by_cases q1 : (57343 : Int32) < c
    · have z66 := q1
      have H67 : Hr x b_ils Z EL1 0 0 h0 [] 16 #[.val (.int c)] [] := H66.icmpT d_ils_9 (XT.ii_ge_t ((lim (by decide)).mp q1))
      have H68 : Hr x b_ils Z EL1 0 0 h0 [] 17 #[.val (.int c)] [.int (0 : Int32)] := H67.iconst d_ils_16
      exact H68.finZ d_ils_17 (t := .boolean) (by first | rfl | decide) ⟨by rw [b01_f (lo_f2 q1)], rfl, rfl⟩ sub0
    · have z68 := q1
      have H69 : Hr x b_ils Z EL1 0 0 h0 [] 12 #[.val (.int c)] [] := H66.icmpF d_ils_9 (XT.ii_ge_f (Decidable.byContradiction fun z => q1 ((lim (by decide)).mpr z)))
      have H70 : Hr x b_ils Z EL1 0 0 h0 [] 13 #[.val (.int c)] [.int (1 : Int32)] := H69.iconst d_ils_12
      have H71 : Hr x b_ils Z EL1 0 0 h0 [] 17 #[.val (.int c)] [.int (1 : Int32)] := H70.goto d_ils_13
      exact H71.finZ d_ils_17 (t := .boolean) (by first | rfl | decide) ⟨by rw [b01_t (lo_t q0 q1)], rfl, rfl⟩ sub0
def b_pair : Bx := (({ frames := 1, cells := 0, slots := 0, locals := 12 } : Room), (⟨"com/example/lavoro/lavoro/NamesCheckPinLaw", "pair", "(CC)I"⟩ : MethodName), method_5_code, 2, (Option.some Jvm.ClassFile.FieldType.int))
theorem ef_pair (c d : Int32) (mI : MethodId) : entryFrame mI #[.int c, .int d] 2 = mkF mI 0 #[.val (.int c), .val (.int d)] [] := by first | (simp [entryFrame, mkF, argsToLocals, Value.category]; done) | rfl
theorem pd_pair : parseMethodDescriptor "(CC)I" = some ⟨[.char, .char], some .int⟩ := by decide +kernel
set_option maxRecDepth 65536 in
set_option maxHeartbeats 4000000 in
theorem ct_pair {a0 : Array Value} {Z : State} (hw : ∀ d ∈ tables_1, d.before a0 Z = true) (l : Launch) (nar kn : Bool) (hnr : nar = false) (h0 : Heap) (c d : Int32) :
    Ct l Z EL1 (⟨"com/example/lavoro/lavoro/NamesCheckPinLaw", "pair", "(CC)I"⟩ : MethodName) method_5_code 2 (Option.some Jvm.ClassFile.FieldType.int) ({ frames := 1, cells := 0, slots := 0, locals := 12 } : Room) #[.int c, .int d] h0 [] nar kn (fun v h sn => v = some (.int (b01 (hiB c && loB d))) ∧ sn = [] ∧ h = h0) := by
  refine Ct.intro (plainFor_of_name pn_com_example_lavoro_lavoro_NamesCheckPinLaw) (ew hw) (ef_pair c d) ?_
  intro x hl hn0 hkn hsf hh H0
  have hnar : x.nar = false := hn0.trans hnr
  have H0 : Hr x b_pair Z EL1 0 0 h0 [] 0 #[.val (.int c), .val (.int d)] [] := H0
  have H1 : Hr x b_pair Z EL1 0 0 h0 [] 1 #[.val (.int c), .val (.int d)] [.int c] := H0.iloadN d_pair_0
  obtain ⟨_, h1, _, ⟨rfl, rfl, e1⟩, K1, H2⟩ := H1.callS (argsL := [.int c]) (rest := []) (Wr := 0) (ct_high hw x.l x.nar x.kn hnar h0 c) sub0 (w143 hw) (w144 hw) (w3 hw) (w145 hw) d_pair_1 pd_high rfl (hf := by first | decide | (simp [b_pair, Bx.R]; done) | (simp [b_pair, Bx.R]; omega)) (hl := by first | decide | (simp [b_pair, Bx.R]; done) | (simp [b_pair, Bx.R]; omega)) (hc := by first | decide | (simp [b_pair, Bx.R]; done) | (simp [b_pair, Bx.R]; omega)) (hs := by first | decide | (simp [b_pair, Bx.R]; done) | (simp [b_pair, Bx.R]; omega))
  rw [e1] at H2
  have H2 : Hr x b_pair Z EL1 0 0 h0 [] 4 #[.val (.int c), .val (.int d)] [.int (b01 (hiB c))] := H2
  rcases Bool.eq_false_or_eq_true (hiB c) with q0 | q0
  · have z71 := q0
    have H72 : Hr x b_pair Z EL1 0 0 h0 [] 7 #[.val (.int c), .val (.int d)] [] := H2.ifF d_pair_4 (XT.i0_eq_f (by rw [b01_t q0]; decide))
    have H73 : Hr x b_pair Z EL1 0 0 h0 [] 8 #[.val (.int c), .val (.int d)] [.int d] := H72.iloadN d_pair_7
    obtain ⟨_, h2, _, ⟨rfl, rfl, e2⟩, K2, H74⟩ := H73.callS (argsL := [.int d]) (rest := []) (Wr := 0) (ct_lowc hw x.l x.nar x.kn hnar h0 d) sub0 (w153 hw) (w154 hw) (w3 hw) (w155 hw) d_pair_8 pd_lowc rfl (hf := by first | decide | (simp [b_pair, Bx.R]; done) | (simp [b_pair, Bx.R]; omega)) (hl := by first | decide | (simp [b_pair, Bx.R]; done) | (simp [b_pair, Bx.R]; omega)) (hc := by first | decide | (simp [b_pair, Bx.R]; done) | (simp [b_pair, Bx.R]; omega)) (hs := by first | decide | (simp [b_pair, Bx.R]; done) | (simp [b_pair, Bx.R]; omega))
    rw [e2] at H74
    have H74 : Hr x b_pair Z EL1 0 0 h0 [] 11 #[.val (.int c), .val (.int d)] [.int (b01 (loB d))] := H74
    rcases Bool.eq_false_or_eq_true (loB d) with q1 | q1
    · have z74 := q1
      have H75 : Hr x b_pair Z EL1 0 0 h0 [] 14 #[.val (.int c), .val (.int d)] [] := H74.ifF d_pair_11 (XT.i0_eq_f (by rw [b01_t q1]; decide))
      have H76 : Hr x b_pair Z EL1 0 0 h0 [] 15 #[.val (.int c), .val (.int d)] [.int (1 : Int32)] := H75.iconst d_pair_14
      have H77 : Hr x b_pair Z EL1 0 0 h0 [] 19 #[.val (.int c), .val (.int d)] [.int (1 : Int32)] := H76.goto d_pair_15
      exact H77.finI d_pair_19 ⟨by rw [q0, q1]; rfl, rfl, rfl⟩ sub0
    · have z77 := q1
      have H78 : Hr x b_pair Z EL1 0 0 h0 [] 18 #[.val (.int c), .val (.int d)] [] := H74.ifT d_pair_11 (XT.i0_eq_t (b01_f q1))
      have H79 : Hr x b_pair Z EL1 0 0 h0 [] 19 #[.val (.int c), .val (.int d)] [.int (0 : Int32)] := H78.iconst d_pair_18
      exact H79.finI d_pair_19 ⟨by rw [q0, q1]; rfl, rfl, rfl⟩ sub0
  · have z79 := q0
    have H80 : Hr x b_pair Z EL1 0 0 h0 [] 18 #[.val (.int c), .val (.int d)] [] := H2.ifT d_pair_4 (XT.i0_eq_t (b01_f q0))
    have H81 : Hr x b_pair Z EL1 0 0 h0 [] 19 #[.val (.int c), .val (.int d)] [.int (0 : Int32)] := H80.iconst d_pair_18
    exact H81.finI d_pair_19 ⟨by rw [q0]; rfl, rfl, rfl⟩ sub0
def b_mmax : Bx := (({ frames := 0, cells := 0, slots := 0, locals := 0 } : Room), (⟨"java/lang/Math", "max", "(II)I"⟩ : MethodName), jdk_29_method_65_code, 2, (Option.some Jvm.ClassFile.FieldType.int))
theorem ef_mmax (a c : Int32) (mI : MethodId) : entryFrame mI #[.int a, .int c] 2 = mkF mI 0 #[.val (.int a), .val (.int c)] [] := by first | (simp [entryFrame, mkF, argsToLocals, Value.category]; done) | rfl
theorem pf_mmax : plainFor (⟨"java/lang/Math", "max", "(II)I"⟩ : MethodName) = true := by decide +kernel
theorem pd_mmax : parseMethodDescriptor "(II)I" = some ⟨[.int, .int], some .int⟩ := by decide +kernel
set_option maxRecDepth 65536 in
set_option maxHeartbeats 4000000 in
theorem ct_mmax {a0 : Array Value} {Z : State} (hw : ∀ d ∈ tables_1, d.before a0 Z = true) (l : Launch) (nar kn : Bool) (hnr : nar = false) (h0 : Heap) (a c r : Int32) (hr : r = if a < c then c else a) :
    Ct l Z EL1 (⟨"java/lang/Math", "max", "(II)I"⟩ : MethodName) jdk_29_method_65_code 2 (Option.some Jvm.ClassFile.FieldType.int) ({ frames := 0, cells := 0, slots := 0, locals := 0 } : Room) #[.int a, .int c] h0 [] nar kn (fun v h sn => v = some (.int r) ∧ sn = [] ∧ h = h0) := by
  refine Ct.intro pf_mmax (ew hw) (ef_mmax a c) ?_
  intro x hl hn0 hkn hsf hh H0
  have hnar : x.nar = false := hn0.trans hnr
  have H0 : Hr x b_mmax Z EL1 0 0 h0 [] 0 #[.val (.int a), .val (.int c)] [] := H0
  have H1 : Hr x b_mmax Z EL1 0 0 h0 [] 1 #[.val (.int a), .val (.int c)] [.int a] := H0.iloadN d_mmax_0
  have H2 : Hr x b_mmax Z EL1 0 0 h0 [] 2 #[.val (.int a), .val (.int c)] [.int c, .int a] := H1.iloadN d_mmax_1
  by_cases q0 : a < c
  · have z81 := q0
    have H82 : Hr x b_mmax Z EL1 0 0 h0 [] 9 #[.val (.int a), .val (.int c)] [] := H2.icmpT d_mmax_2 (XT.ii_lt_t q0)
    have H83 : Hr x b_mmax Z EL1 0 0 h0 [] 10 #[.val (.int a), .val (.int c)] [.int c] := H82.iloadN d_mmax_9
    exact H83.finI d_mmax_10 ⟨by rw [hr, if_pos q0], rfl, rfl⟩ sub0
  · have z83 := q0
    have H84 : Hr x b_mmax Z EL1 0 0 h0 [] 5 #[.val (.int a), .val (.int c)] [] := H2.icmpF d_mmax_2 (XT.ii_lt_f q0)
    have H85 : Hr x b_mmax Z EL1 0 0 h0 [] 6 #[.val (.int a), .val (.int c)] [.int a] := H84.iloadN d_mmax_5
    have H86 : Hr x b_mmax Z EL1 0 0 h0 [] 10 #[.val (.int a), .val (.int c)] [.int a] := H85.goto d_mmax_6
    exact H86.finI d_mmax_10 ⟨by rw [hr, if_neg q0], rfl, rfl⟩ sub0
def b_mmin : Bx := (({ frames := 0, cells := 0, slots := 0, locals := 0 } : Room), (⟨"java/lang/Math", "min", "(II)I"⟩ : MethodName), jdk_29_method_69_code, 2, (Option.some Jvm.ClassFile.FieldType.int))
theorem ef_mmin (a c : Int32) (mI : MethodId) : entryFrame mI #[.int a, .int c] 2 = mkF mI 0 #[.val (.int a), .val (.int c)] [] := by first | (simp [entryFrame, mkF, argsToLocals, Value.category]; done) | rfl
theorem pf_mmin : plainFor (⟨"java/lang/Math", "min", "(II)I"⟩ : MethodName) = true := by decide +kernel
theorem pd_mmin : parseMethodDescriptor "(II)I" = some ⟨[.int, .int], some .int⟩ := by decide +kernel
set_option maxRecDepth 65536 in
set_option maxHeartbeats 4000000 in
theorem ct_mmin {a0 : Array Value} {Z : State} (hw : ∀ d ∈ tables_1, d.before a0 Z = true) (l : Launch) (nar kn : Bool) (hnr : nar = false) (h0 : Heap) (a c r : Int32) (hr : r = if c < a then c else a) :
    Ct l Z EL1 (⟨"java/lang/Math", "min", "(II)I"⟩ : MethodName) jdk_29_method_69_code 2 (Option.some Jvm.ClassFile.FieldType.int) ({ frames := 0, cells := 0, slots := 0, locals := 0 } : Room) #[.int a, .int c] h0 [] nar kn (fun v h sn => v = some (.int r) ∧ sn = [] ∧ h = h0) := by
  refine Ct.intro pf_mmin (ew hw) (ef_mmin a c) ?_
  intro x hl hn0 hkn hsf hh H0
  have hnar : x.nar = false := hn0.trans hnr
  have H0 : Hr x b_mmin Z EL1 0 0 h0 [] 0 #[.val (.int a), .val (.int c)] [] := H0
  have H1 : Hr x b_mmin Z EL1 0 0 h0 [] 1 #[.val (.int a), .val (.int c)] [.int a] := H0.iloadN d_mmin_0
  have H2 : Hr x b_mmin Z EL1 0 0 h0 [] 2 #[.val (.int a), .val (.int c)] [.int c, .int a] := H1.iloadN d_mmin_1
  by_cases q0 : c < a
  · have z86 := q0
    have H87 : Hr x b_mmin Z EL1 0 0 h0 [] 9 #[.val (.int a), .val (.int c)] [] := H2.icmpT d_mmin_2 (XT.ii_gt_t q0)
    have H88 : Hr x b_mmin Z EL1 0 0 h0 [] 10 #[.val (.int a), .val (.int c)] [.int c] := H87.iloadN d_mmin_9
    exact H88.finI d_mmin_10 ⟨by rw [hr, if_pos q0], rfl, rfl⟩ sub0
  · have z88 := q0
    have H89 : Hr x b_mmin Z EL1 0 0 h0 [] 5 #[.val (.int a), .val (.int c)] [] := H2.icmpF d_mmin_2 (XT.ii_gt_f q0)
    have H90 : Hr x b_mmin Z EL1 0 0 h0 [] 6 #[.val (.int a), .val (.int c)] [.int a] := H89.iloadN d_mmin_5
    have H91 : Hr x b_mmin Z EL1 0 0 h0 [] 10 #[.val (.int a), .val (.int c)] [.int a] := H90.goto d_mmin_6
    exact H91.finI d_mmin_10 ⟨by rw [hr, if_neg q0], rfl, rfl⟩ sub0
def b_nbl : Bx := (({ frames := 0, cells := 0, slots := 0, locals := 0 } : Room), (⟨"java/lang/StringUTF16", "newBytesLength", "(I)I"⟩ : MethodName), jdk_52_method_3_code, 1, (Option.some Jvm.ClassFile.FieldType.int))
theorem ef_nbl (n : Nat) (mI : MethodId) : entryFrame mI #[.int (Int32.ofNat n)] 1 = mkF mI 0 #[.val (.int (Int32.ofNat n))] [] := by first | (simp [entryFrame, mkF, argsToLocals, Value.category]; done) | rfl
theorem pn_java_lang_StringUTF16 : plainName "java/lang/StringUTF16" = true := by first | (simp [plainName, overriddenIn]; done) | decide +kernel
theorem pd_nbl : parseMethodDescriptor "(I)I" = some ⟨[.int], some .int⟩ := by decide +kernel
set_option maxRecDepth 65536 in
set_option maxHeartbeats 4000000 in
theorem ct_nbl {a0 : Array Value} {Z : State} (hw : ∀ d ∈ tables_1, d.before a0 Z = true) (l : Launch) (nar kn : Bool) (hnr : nar = false) (h0 : Heap) (n : Nat) (hn : n ≤ 4) :
    Ct l Z EL1 (⟨"java/lang/StringUTF16", "newBytesLength", "(I)I"⟩ : MethodName) jdk_52_method_3_code 1 (Option.some Jvm.ClassFile.FieldType.int) ({ frames := 0, cells := 0, slots := 0, locals := 0 } : Room) #[.int (Int32.ofNat n)] h0 [] nar kn (fun v h sn => v = some (.int (Int32.ofNat (2 * n))) ∧ sn = [] ∧ h = h0) := by
  refine Ct.intro (plainFor_of_name pn_java_lang_StringUTF16) (ew hw) (ef_nbl n) ?_
  intro x hl hn0 hkn hsf hh H0
  have hnar : x.nar = false := hn0.trans hnr
  have H0 : Hr x b_nbl Z EL1 0 0 h0 [] 0 #[.val (.int (Int32.ofNat n))] [] := H0
  have hlt : Int32.ofNat n < (1073741823 : Int32) := by rw [Int32.lt_iff_toInt_lt, toInt_of (n := Int32.ofNat n) rfl (by omega)]; have e : (1073741823 : Int32).toInt = 1073741823 := (by decide); omega
  have H1 : Hr x b_nbl Z EL1 0 0 h0 [] 1 #[.val (.int (Int32.ofNat n))] [.int (Int32.ofNat n)] := H0.iloadN d_nbl_0
  have H2 : Hr x b_nbl Z EL1 0 0 h0 [] 12 #[.val (.int (Int32.ofNat n))] [] := H1.ifT d_nbl_1 (XT.i0_ge_t (nn32 (by omega)))
  have H3 : Hr x b_nbl Z EL1 0 0 h0 [] 13 #[.val (.int (Int32.ofNat n))] [.int (Int32.ofNat n)] := H2.iloadN d_nbl_12
  have H4 : Hr x b_nbl Z EL1 0 0 h0 [] 15 #[.val (.int (Int32.ofNat n))] [.int (1073741823 : Int32), .int (Int32.ofNat n)] := H3.ldcI (w41 hw) d_nbl_13
  have H5 : Hr x b_nbl Z EL1 0 0 h0 [] 55 #[.val (.int (Int32.ofNat n))] [] := H4.icmpT d_nbl_15 (XT.ii_lt_t hlt)
  have H6 : Hr x b_nbl Z EL1 0 0 h0 [] 56 #[.val (.int (Int32.ofNat n))] [.int (Int32.ofNat n)] := H5.iloadN d_nbl_55
  have H7 : Hr x b_nbl Z EL1 0 0 h0 [] 57 #[.val (.int (Int32.ofNat n))] [.int (1 : Int32), .int (Int32.ofNat n)] := H6.iconst d_nbl_56
  have H8 : Hr x b_nbl Z EL1 0 0 h0 [] 58 #[.val (.int (Int32.ofNat n))] [.int (Int32.ofNat (2 * n))] := H7.ishl d_nbl_57 (hv := (shl1 (by omega)))
  exact H8.finI d_nbl_58 ⟨rfl, rfl, rfl⟩ sub0
def b_nbf : Bx := (({ frames := 1, cells := 1, slots := 8, locals := 12 } : Room), (⟨"java/lang/StringUTF16", "newBytesFor", "(I)[B"⟩ : MethodName), jdk_52_method_2_code, 1, (Option.some (Jvm.ClassFile.FieldType.array Jvm.ClassFile.FieldType.byte)))
theorem ef_nbf (n : Nat) (mI : MethodId) : entryFrame mI #[.int (Int32.ofNat n)] 1 = mkF mI 0 #[.val (.int (Int32.ofNat n))] [] := by first | (simp [entryFrame, mkF, argsToLocals, Value.category]; done) | rfl
theorem pd_nbf : parseMethodDescriptor "(I)[B" = some ⟨[.int], some (.array .byte)⟩ := by decide +kernel
set_option maxRecDepth 65536 in
set_option maxHeartbeats 4000000 in
theorem ct_nbf {a0 : Array Value} {Z : State} (hw : ∀ d ∈ tables_1, d.before a0 Z = true) (l : Launch) (nar kn : Bool) (hnr : nar = false) (h0 : Heap) (n : Nat) (hn : n ≤ 4) :
    Ct l Z EL1 (⟨"java/lang/StringUTF16", "newBytesFor", "(I)[B"⟩ : MethodName) jdk_52_method_2_code 1 (Option.some (Jvm.ClassFile.FieldType.array Jvm.ClassFile.FieldType.byte)) ({ frames := 1, cells := 1, slots := 8, locals := 12 } : Room) #[.int (Int32.ofNat n)] h0 [] nar kn (fun v h sn => ∃ t, v = some (.ref t) ∧ h0.size ≤ t ∧ sn = [t] ∧ Ar Z h t .byte (List.replicate (2 * n) (.int 0))) := by
  refine Ct.intro (plainFor_of_name pn_java_lang_StringUTF16) (ew hw) (ef_nbf n) ?_
  intro x hl hn0 hkn hsf hh H0
  have hnar : x.nar = false := hn0.trans hnr
  have H0 : Hr x b_nbf Z EL1 0 0 h0 [] 0 #[.val (.int (Int32.ofNat n))] [] := H0
  have hcl : (Int32.ofNat (2 * n)).toNatClampNeg = 2 * n := clamp_of rfl (by omega)
  have H1 : Hr x b_nbf Z EL1 0 0 h0 [] 1 #[.val (.int (Int32.ofNat n))] [.int (Int32.ofNat n)] := H0.iloadN d_nbf_0
  obtain ⟨_, h1, _, ⟨rfl, rfl, e1⟩, K1, H2⟩ := H1.callS (argsL := [.int (Int32.ofNat n)]) (rest := []) (Wr := 0) (ct_nbl hw x.l x.nar x.kn hnar h0 n hn) sub0 (w38 hw) (w39 hw) (w26 hw) (w40 hw) d_nbf_1 pd_nbl rfl (hf := by first | decide | (simp [b_nbf, Bx.R]; done) | (simp [b_nbf, Bx.R]; omega)) (hl := by first | decide | (simp [b_nbf, Bx.R]; done) | (simp [b_nbf, Bx.R]; omega)) (hc := by first | decide | (simp [b_nbf, Bx.R]; done) | (simp [b_nbf, Bx.R]; omega)) (hs := by first | decide | (simp [b_nbf, Bx.R]; done) | (simp [b_nbf, Bx.R]; omega))
  rw [e1] at H2
  have H2 : Hr x b_nbf Z EL1 0 0 h0 [] 4 #[.val (.int (Int32.ofNat n))] [.int (Int32.ofNat (2 * n))] := H2
  obtain ⟨h2, E2, Fu, H3⟩ := H2.newarray (aty := .byte) (cap := 8) (w28 hw) d_nbf_4 (nn32 (by omega)) (by rw [hcl]; omega) (by decide) (by first | decide | (simp [b_nbf, Bx.R]; done) | (simp [b_nbf, Bx.R]; omega)) (by first | decide | (simp [b_nbf, Bx.R]; done) | (simp [b_nbf, Bx.R]; omega))
  obtain ⟨u, g_u⟩ : ∃ z, z = h0.size := ⟨_, rfl⟩
  rw [← g_u] at Fu H3
  have Fu : Ar Z h2 u .byte (List.replicate (2 * n) (.int 0)) := (by have := Fu; rw [hcl] at this; exact this)
  have H3 : Hr x b_nbf Z EL1 1 8 h2 [u] 6 #[.val (.int (Int32.ofNat n))] [.ref u] := H3
  exact H3.finA d_nbf_6 ⟨u, rfl, by omega, rfl, Fu⟩ (sub1 (by simp))
def b_putc : Bx := (({ frames := 0, cells := 0, slots := 0, locals := 0 } : Room), (⟨"java/lang/StringUTF16", "putChar", "([BII)V"⟩ : MethodName), jdk_52_method_4_code, 3, (Option.none : Option Jvm.ClassFile.FieldType))
theorem ef_putc (d : Addr) (i : Nat) (c : Int32) (mI : MethodId) : entryFrame mI #[.ref d, .int (Int32.ofNat i), .int c] 3 = mkF mI 0 #[.val (.ref d), .val (.int (Int32.ofNat i)), .val (.int c)] [] := by first | (simp [entryFrame, mkF, argsToLocals, Value.category]; done) | rfl
theorem pd_putc : parseMethodDescriptor "([BII)V" = some ⟨[(.array .byte), .int, .int], none⟩ := by decide +kernel
set_option maxRecDepth 65536 in
set_option maxHeartbeats 4000000 in
theorem ct_putc {a0 : Array Value} {Z : State} (hw : ∀ d ∈ tables_1, d.before a0 Z = true) (l : Launch) (nar kn : Bool) (hnr : nar = false) (h0 : Heap) (d : Addr) (i : Nat) (c : Int32) (ws : List Value) (Fd : Ar Z h0 d .byte ws) (hi : 2 * i + 1 < ws.length) (Sd : Sta Z Z.heap "java/lang/StringUTF16" "$assertionsDisabled" "Z" (.int 1)) (Sh : Sta Z Z.heap "java/lang/StringUTF16" "HI_BYTE_SHIFT" "I" (.int 0)) (Sl : Sta Z Z.heap "java/lang/StringUTF16" "LO_BYTE_SHIFT" "I" (.int 8)) :
    Ct l Z EL1 (⟨"java/lang/StringUTF16", "putChar", "([BII)V"⟩ : MethodName) jdk_52_method_4_code 3 (Option.none : Option Jvm.ClassFile.FieldType) ({ frames := 0, cells := 0, slots := 0, locals := 0 } : Room) #[.ref d, .int (Int32.ofNat i), .int c] h0 [d] nar kn (fun v h sn => v = none ∧ sn = [] ∧ Ar Z h d .byte ((ws.set (2 * i) (.int (b8 c))).set (2 * i + 1) (.int (hib c)))) := by
  refine Ct.intro (plainFor_of_name pn_java_lang_StringUTF16) (ew hw) (ef_putc d i c) ?_
  intro x hl hn0 hkn hsf hh H0
  have hnar : x.nar = false := hn0.trans hnr
  have H0 : Hr x b_putc Z EL1 0 0 h0 [d] 0 #[.val (.ref d), .val (.int (Int32.ofNat i)), .val (.int c)] [] := H0
  have hlen := Fd.len
  have H1 : Hr x b_putc Z EL1 0 0 h0 [d] 3 #[.val (.ref d), .val (.int (Int32.ofNat i)), .val (.int c)] [.int (1 : Int32)] := H0.getS (w45 hw) (Sd.ext H0.old) d_putc_0
  have H2 : Hr x b_putc Z EL1 0 0 h0 [d] 28 #[.val (.ref d), .val (.int (Int32.ofNat i)), .val (.int c)] [] := H1.ifT d_putc_3 (XT.i0_ne_t (by decide))
  have H3 : Hr x b_putc Z EL1 0 0 h0 [d] 29 #[.val (.ref d), .val (.int (Int32.ofNat i)), .val (.int c)] [.int (Int32.ofNat i)] := H2.iloadN d_putc_28
  have H4 : Hr x b_putc Z EL1 0 0 h0 [d] 30 #[.val (.ref d), .val (.int (Int32.ofNat i)), .val (.int c)] [.int (1 : Int32), .int (Int32.ofNat i)] := H3.iconst d_putc_29
  have H5 : Hr x b_putc Z EL1 0 0 h0 [d] 31 #[.val (.ref d), .val (.int (Int32.ofNat i)), .val (.int c)] [.int (Int32.ofNat (2 * i))] := H4.ishl d_putc_30 (hv := (shl1 (by omega)))
  have H6 : Hr x b_putc Z EL1 0 0 h0 [d] 32 #[.val (.ref d), .val (.int (Int32.ofNat (2 * i))), .val (.int c)] [] := H5.istoreN d_putc_31
  have H7 : Hr x b_putc Z EL1 0 0 h0 [d] 33 #[.val (.ref d), .val (.int (Int32.ofNat (2 * i))), .val (.int c)] [.ref d] := H6.aloadN d_putc_32
  have H8 : Hr x b_putc Z EL1 0 0 h0 [d] 34 #[.val (.ref d), .val (.int (Int32.ofNat (2 * i))), .val (.int c)] [.int (Int32.ofNat (2 * i)), .ref d] := H7.iloadN d_putc_33
  have H9 : Hr x b_putc Z EL1 0 0 h0 [d] 37 #[.val (.ref d), .val (.int (Int32.ofNat (2 * i + 1))), .val (.int c)] [.int (Int32.ofNat (2 * i)), .ref d] := H8.iinc d_putc_34 (v := (Int32.ofNat (2 * i + 1))) (hv := (inc_ofNat (2 * i)).symm)
  have H10 : Hr x b_putc Z EL1 0 0 h0 [d] 38 #[.val (.ref d), .val (.int (Int32.ofNat (2 * i + 1))), .val (.int c)] [.int c, .int (Int32.ofNat (2 * i)), .ref d] := H9.iloadN d_putc_37
  have H11 : Hr x b_putc Z EL1 0 0 h0 [d] 41 #[.val (.ref d), .val (.int (Int32.ofNat (2 * i + 1))), .val (.int c)] [.int (0 : Int32), .int c, .int (Int32.ofNat (2 * i)), .ref d] := H10.getS (w46 hw) (Sh.ext H10.old) d_putc_38
  have H12 : Hr x b_putc Z EL1 0 0 h0 [d] 42 #[.val (.ref d), .val (.int (Int32.ofNat (2 * i + 1))), .val (.int c)] [.int c, .int (Int32.ofNat (2 * i)), .ref d] := H11.ishr d_putc_41 (hv := (shr0 _))
  have H13 : Hr x b_putc Z EL1 0 0 h0 [d] 43 #[.val (.ref d), .val (.int (Int32.ofNat (2 * i + 1))), .val (.int c)] [.int (b8 c), .int (Int32.ofNat (2 * i)), .ref d] := H12.i2b d_putc_42
  obtain ⟨h1, W1, H14⟩ := H13.bastore (List.mem_singleton.mpr rfl) Fd d_putc_43 (i := (2 * i)) rfl (by omega) (hw := (b8_b8 _))
  have H14 : Hr x b_putc Z EL1 0 0 h1 [d] 44 #[.val (.ref d), .val (.int (Int32.ofNat (2 * i + 1))), .val (.int c)] [] := H14
  have F1 := Fd.set W1
  have H15 : Hr x b_putc Z EL1 0 0 h1 [d] 45 #[.val (.ref d), .val (.int (Int32.ofNat (2 * i + 1))), .val (.int c)] [.ref d] := H14.aloadN d_putc_44
  have H16 : Hr x b_putc Z EL1 0 0 h1 [d] 46 #[.val (.ref d), .val (.int (Int32.ofNat (2 * i + 1))), .val (.int c)] [.int (Int32.ofNat (2 * i + 1)), .ref d] := H15.iloadN d_putc_45
  have H17 : Hr x b_putc Z EL1 0 0 h1 [d] 47 #[.val (.ref d), .val (.int (Int32.ofNat (2 * i + 1))), .val (.int c)] [.int c, .int (Int32.ofNat (2 * i + 1)), .ref d] := H16.iloadN d_putc_46
  have H18 : Hr x b_putc Z EL1 0 0 h1 [d] 50 #[.val (.ref d), .val (.int (Int32.ofNat (2 * i + 1))), .val (.int c)] [.int (8 : Int32), .int c, .int (Int32.ofNat (2 * i + 1)), .ref d] := H17.getS (w47 hw) (Sl.ext H17.old) d_putc_47
  have H19 : Hr x b_putc Z EL1 0 0 h1 [d] 51 #[.val (.ref d), .val (.int (Int32.ofNat (2 * i + 1))), .val (.int c)] [.int (c >>> ((8 : Int32) &&& 31)), .int (Int32.ofNat (2 * i + 1)), .ref d] := H18.ishr d_putc_50
  have H20 : Hr x b_putc Z EL1 0 0 h1 [d] 52 #[.val (.ref d), .val (.int (Int32.ofNat (2 * i + 1))), .val (.int c)] [.int (hib c), .int (Int32.ofNat (2 * i + 1)), .ref d] := H19.i2b d_putc_51
  obtain ⟨h2, W2, H21⟩ := H20.bastore (List.mem_singleton.mpr rfl) F1 d_putc_52 (i := (2 * i + 1)) rfl (by simpa using hi) (hw := (b8_b8 _))
  have H21 : Hr x b_putc Z EL1 0 0 h2 [d] 53 #[.val (.ref d), .val (.int (Int32.ofNat (2 * i + 1))), .val (.int c)] [] := H21
  exact H21.finN d_putc_53 rfl (by decide) (by decide) sub0 ⟨rfl, rfl, F1.set W2⟩
def b_getc : Bx := (({ frames := 0, cells := 0, slots := 0, locals := 0 } : Room), (⟨"java/lang/StringUTF16", "getChar", "([BI)C"⟩ : MethodName), jdk_52_method_5_code, 2, (Option.some Jvm.ClassFile.FieldType.char))
theorem ef_getc (t : Addr) (i : Nat) (mI : MethodId) : entryFrame mI #[.ref t, .int (Int32.ofNat i)] 2 = mkF mI 0 #[.val (.ref t), .val (.int (Int32.ofNat i))] [] := by first | (simp [entryFrame, mkF, argsToLocals, Value.category]; done) | rfl
theorem pd_getc : parseMethodDescriptor "([BI)C" = some ⟨[(.array .byte), .int], some .char⟩ := by decide +kernel
set_option maxRecDepth 65536 in
set_option maxHeartbeats 4000000 in
theorem ct_getc {a0 : Array Value} {Z : State} (hw : ∀ d ∈ tables_1, d.before a0 Z = true) (l : Launch) (nar kn : Bool) (hnr : nar = false) (h0 : Heap) (t : Addr) (i : Nat) (cs : List Int32) (hi : i < cs.length) (Ft : Ar Z h0 t .byte (u16 cs)) (hc : CHL cs) (Sd : Sta Z Z.heap "java/lang/StringUTF16" "$assertionsDisabled" "Z" (.int 1)) (Sh : Sta Z Z.heap "java/lang/StringUTF16" "HI_BYTE_SHIFT" "I" (.int 0)) (Sl : Sta Z Z.heap "java/lang/StringUTF16" "LO_BYTE_SHIFT" "I" (.int 8)) :
    Ct l Z EL1 (⟨"java/lang/StringUTF16", "getChar", "([BI)C"⟩ : MethodName) jdk_52_method_5_code 2 (Option.some Jvm.ClassFile.FieldType.char) ({ frames := 0, cells := 0, slots := 0, locals := 0 } : Room) #[.ref t, .int (Int32.ofNat i)] h0 [] nar kn (fun v h sn => v = some (.int cs[i]) ∧ sn = [] ∧ h = h0) := by
  refine Ct.intro (plainFor_of_name pn_java_lang_StringUTF16) (ew hw) (ef_getc t i) ?_
  intro x hl hn0 hkn hsf hh H0
  have hnar : x.nar = false := hn0.trans hnr
  have H0 : Hr x b_getc Z EL1 0 0 h0 [] 0 #[.val (.ref t), .val (.int (Int32.ofNat i))] [] := H0
  have hlen := Ft.len
  rw [u16_len] at hlen
  have H1 : Hr x b_getc Z EL1 0 0 h0 [] 3 #[.val (.ref t), .val (.int (Int32.ofNat i))] [.int (1 : Int32)] := H0.getS (w45 hw) (Sd.ext H0.old) d_getc_0
  have H2 : Hr x b_getc Z EL1 0 0 h0 [] 28 #[.val (.ref t), .val (.int (Int32.ofNat i))] [] := H1.ifT d_getc_3 (XT.i0_ne_t (by decide))
  have H3 : Hr x b_getc Z EL1 0 0 h0 [] 29 #[.val (.ref t), .val (.int (Int32.ofNat i))] [.int (Int32.ofNat i)] := H2.iloadN d_getc_28
  have H4 : Hr x b_getc Z EL1 0 0 h0 [] 30 #[.val (.ref t), .val (.int (Int32.ofNat i))] [.int (1 : Int32), .int (Int32.ofNat i)] := H3.iconst d_getc_29
  have H5 : Hr x b_getc Z EL1 0 0 h0 [] 31 #[.val (.ref t), .val (.int (Int32.ofNat i))] [.int (Int32.ofNat (2 * i))] := H4.ishl d_getc_30 (hv := (shl1 (by omega)))
  have H6 : Hr x b_getc Z EL1 0 0 h0 [] 32 #[.val (.ref t), .val (.int (Int32.ofNat (2 * i)))] [] := H5.istoreN d_getc_31
  have H7 : Hr x b_getc Z EL1 0 0 h0 [] 33 #[.val (.ref t), .val (.int (Int32.ofNat (2 * i)))] [.ref t] := H6.aloadN d_getc_32
  have H8 : Hr x b_getc Z EL1 0 0 h0 [] 34 #[.val (.ref t), .val (.int (Int32.ofNat (2 * i)))] [.int (Int32.ofNat (2 * i)), .ref t] := H7.iloadN d_getc_33
  have H9 : Hr x b_getc Z EL1 0 0 h0 [] 37 #[.val (.ref t), .val (.int (Int32.ofNat (2 * i + 1)))] [.int (Int32.ofNat (2 * i)), .ref t] := H8.iinc d_getc_34 (v := (Int32.ofNat (2 * i + 1))) (hv := (inc_ofNat (2 * i)).symm)
  have H10 : Hr x b_getc Z EL1 0 0 h0 [] 38 #[.val (.ref t), .val (.int (Int32.ofNat (2 * i + 1)))] [.int (b8 cs[i])] := H9.baload Ft d_getc_37 (i := (2 * i)) rfl (u16_lo cs i hi)
  have H11 : Hr x b_getc Z EL1 0 0 h0 [] 41 #[.val (.ref t), .val (.int (Int32.ofNat (2 * i + 1)))] [.int (255 : Int32), .int (b8 cs[i])] := H10.sipush d_getc_38
  have H12 : Hr x b_getc Z EL1 0 0 h0 [] 42 #[.val (.ref t), .val (.int (Int32.ofNat (2 * i + 1)))] [.int ((b8 cs[i]) &&& (255 : Int32))] := H11.iand d_getc_41
  have H13 : Hr x b_getc Z EL1 0 0 h0 [] 45 #[.val (.ref t), .val (.int (Int32.ofNat (2 * i + 1)))] [.int (0 : Int32), .int ((b8 cs[i]) &&& (255 : Int32))] := H12.getS (w46 hw) (Sh.ext H12.old) d_getc_42
  have H14 : Hr x b_getc Z EL1 0 0 h0 [] 46 #[.val (.ref t), .val (.int (Int32.ofNat (2 * i + 1)))] [.int (b8 cs[i] &&& 255)] := H13.ishl d_getc_45 (hv := (shl0 _))
  have H15 : Hr x b_getc Z EL1 0 0 h0 [] 47 #[.val (.ref t), .val (.int (Int32.ofNat (2 * i + 1)))] [.ref t, .int (b8 cs[i] &&& 255)] := H14.aloadN d_getc_46
  have H16 : Hr x b_getc Z EL1 0 0 h0 [] 48 #[.val (.ref t), .val (.int (Int32.ofNat (2 * i + 1)))] [.int (Int32.ofNat (2 * i + 1)), .ref t, .int (b8 cs[i] &&& 255)] := H15.iloadN d_getc_47
  have H17 : Hr x b_getc Z EL1 0 0 h0 [] 49 #[.val (.ref t), .val (.int (Int32.ofNat (2 * i + 1)))] [.int (hib cs[i]), .int (b8 cs[i] &&& 255)] := H16.baload Ft d_getc_48 (i := (2 * i + 1)) rfl (u16_hi cs i hi)
  have H18 : Hr x b_getc Z EL1 0 0 h0 [] 52 #[.val (.ref t), .val (.int (Int32.ofNat (2 * i + 1)))] [.int (255 : Int32), .int (hib cs[i]), .int (b8 cs[i] &&& 255)] := H17.sipush d_getc_49
  have H19 : Hr x b_getc Z EL1 0 0 h0 [] 53 #[.val (.ref t), .val (.int (Int32.ofNat (2 * i + 1)))] [.int ((hib cs[i]) &&& (255 : Int32)), .int (b8 cs[i] &&& 255)] := H18.iand d_getc_52
  have H20 : Hr x b_getc Z EL1 0 0 h0 [] 56 #[.val (.ref t), .val (.int (Int32.ofNat (2 * i + 1)))] [.int (8 : Int32), .int ((hib cs[i]) &&& (255 : Int32)), .int (b8 cs[i] &&& 255)] := H19.getS (w47 hw) (Sl.ext H19.old) d_getc_53
  have H21 : Hr x b_getc Z EL1 0 0 h0 [] 57 #[.val (.ref t), .val (.int (Int32.ofNat (2 * i + 1)))] [.int (((hib cs[i]) &&& (255 : Int32)) <<< ((8 : Int32) &&& 31)), .int (b8 cs[i] &&& 255)] := H20.ishl d_getc_56
  have H22 : Hr x b_getc Z EL1 0 0 h0 [] 58 #[.val (.ref t), .val (.int (Int32.ofNat (2 * i + 1)))] [.int ((b8 cs[i] &&& 255) ||| (((hib cs[i]) &&& (255 : Int32)) <<< ((8 : Int32) &&& 31)))] := H21.ior d_getc_57
  have H23 : Hr x b_getc Z EL1 0 0 h0 [] 59 #[.val (.ref t), .val (.int (Int32.ofNat (2 * i + 1)))] [.int (cs[i])] := H22.i2c d_getc_58 (hv := (getc (hc _ (List.getElem_mem hi))))
  exact H23.finZ d_getc_59 (t := .char) ((hc _ (List.getElem_mem hi)).nrc) ⟨rfl, rfl, rfl⟩ sub0
def b_toby : Bx := (({ frames := 2, cells := 1, slots := 8, locals := 24 } : Room), (⟨"java/lang/StringUTF16", "toBytes", "([CII)[B"⟩ : MethodName), jdk_52_method_14_code, 5, (Option.some (Jvm.ClassFile.FieldType.array Jvm.ClassFile.FieldType.byte)))
theorem ef_toby (a : Addr) (cs : List Int32) (mI : MethodId) : entryFrame mI #[.ref a, .int (0 : Int32), .int (Int32.ofNat cs.length)] 5 = mkF mI 0 #[.val (.ref a), .val (.int (0 : Int32)), .val (.int (Int32.ofNat cs.length)), .unset, .unset] [] := by first | (simp [entryFrame, mkF, argsToLocals, Value.category]; done) | rfl
theorem pd_toby : parseMethodDescriptor "([CII)[B" = some ⟨[(.array .char), .int, .int], some (.array .byte)⟩ := by decide +kernel
set_option maxRecDepth 65536 in
set_option maxHeartbeats 4000000 in
theorem ct_toby {a0 : Array Value} {Z : State} (hw : ∀ d ∈ tables_1, d.before a0 Z = true) (l : Launch) (nar kn : Bool) (hnr : nar = false) (h0 : Heap) (a : Addr) (cs : List Int32) (Fa : Ar Z h0 a .char (cs.map Value.int)) (hcap : cs.length ≤ 4) (Sd : Sta Z Z.heap "java/lang/StringUTF16" "$assertionsDisabled" "Z" (.int 1)) (Sh : Sta Z Z.heap "java/lang/StringUTF16" "HI_BYTE_SHIFT" "I" (.int 0)) (Sl : Sta Z Z.heap "java/lang/StringUTF16" "LO_BYTE_SHIFT" "I" (.int 8)) :
    Ct l Z EL1 (⟨"java/lang/StringUTF16", "toBytes", "([CII)[B"⟩ : MethodName) jdk_52_method_14_code 5 (Option.some (Jvm.ClassFile.FieldType.array Jvm.ClassFile.FieldType.byte)) ({ frames := 2, cells := 1, slots := 8, locals := 24 } : Room) #[.ref a, .int (0 : Int32), .int (Int32.ofNat cs.length)] h0 [] nar kn (fun v h sn => ∃ t, v = some (.ref t) ∧ h0.size ≤ t ∧ sn = [t] ∧ Ar Z h t .byte (u16 cs)) := by
  refine Ct.intro (plainFor_of_name pn_java_lang_StringUTF16) (ew hw) (ef_toby a cs) ?_
  intro x hl hn0 hkn hsf hh H0
  have hnar : x.nar = false := hn0.trans hnr
  have H0 : Hr x b_toby Z EL1 0 0 h0 [] 0 #[.val (.ref a), .val (.int (0 : Int32)), .val (.int (Int32.ofNat cs.length)), .unset, .unset] [] := H0
  have H1 : Hr x b_toby Z EL1 0 0 h0 [] 1 #[.val (.ref a), .val (.int (0 : Int32)), .val (.int (Int32.ofNat cs.length)), .unset, .unset] [.int (Int32.ofNat cs.length)] := H0.iloadN d_toby_0
  obtain ⟨_, h1, _, ⟨t, rfl, ht, rfl, Ft⟩, K1, H2⟩ := H1.callS (argsL := [.int (Int32.ofNat cs.length)]) (rest := []) (Wr := 0) (ct_nbf hw x.l x.nar x.kn hnar h0 cs.length hcap) sub0 (w35 hw) (w36 hw) (w26 hw) (w37 hw) d_toby_1 pd_nbf rfl (hf := by first | decide | (simp [b_toby, Bx.R]; done) | (simp [b_toby, Bx.R]; omega)) (hl := by first | decide | (simp [b_toby, Bx.R]; done) | (simp [b_toby, Bx.R]; omega)) (hc := by first | decide | (simp [b_toby, Bx.R]; done) | (simp [b_toby, Bx.R]; omega)) (hs := by first | decide | (simp [b_toby, Bx.R]; done) | (simp [b_toby, Bx.R]; omega))
  have H2 : Hr x b_toby Z EL1 1 8 h1 [t] 4 #[.val (.ref a), .val (.int (0 : Int32)), .val (.int (Int32.ofNat cs.length)), .unset, .unset] [.ref t] := H2
  have hat : @Ne Nat a t := by have := Fa.lt; omega
  have H3 : Hr x b_toby Z EL1 1 8 h1 [t] 5 #[.val (.ref a), .val (.int (0 : Int32)), .val (.int (Int32.ofNat cs.length)), .val (.ref t), .unset] [] := H2.astoreN d_toby_4
  have H4 : Hr x b_toby Z EL1 1 8 h1 [t] 6 #[.val (.ref a), .val (.int (0 : Int32)), .val (.int (Int32.ofNat cs.length)), .val (.ref t), .unset] [.int (0 : Int32)] := H3.iconst d_toby_5
  have H5 : Hr x b_toby Z EL1 1 8 h1 [t] 8 #[.val (.ref a), .val (.int (0 : Int32)), .val (.int (Int32.ofNat cs.length)), .val (.ref t), .val (.int (0 : Int32))] [] := H4.istore d_toby_6
  have loop : ∀ (k i : Nat) (h : Heap), i + k = cs.length → Ar Z h a .char (cs.map Value.int) → Ar Z h t .byte (u16 (cs.take i) ++ List.replicate (2 * k) (.int 0)) → Hr x b_toby Z EL1 1 8 h [t] 8 #[.val (.ref a), .val (.int (Int32.ofNat i)), .val (.int (Int32.ofNat cs.length)), .val (.ref t), .val (.int (Int32.ofNat i))] [] → Ends x b_toby Z EL1 (fun v h sn => ∃ t, v = some (.ref t) ∧ h0.size ≤ t ∧ sn = [t] ∧ Ar Z h t .byte (u16 cs)) := by
    intro k
    induction k with
    | zero =>
      intro i h hi Fa Fd H
      obtain rfl : i = cs.length := by omega
      have H6 : Hr x b_toby Z EL1 1 8 h [t] 10 #[.val (.ref a), .val (.int (Int32.ofNat cs.length)), .val (.int (Int32.ofNat cs.length)), .val (.ref t), .val (.int (Int32.ofNat cs.length))] [.int (Int32.ofNat cs.length)] := H.iload d_toby_8
      have H7 : Hr x b_toby Z EL1 1 8 h [t] 11 #[.val (.ref a), .val (.int (Int32.ofNat cs.length)), .val (.int (Int32.ofNat cs.length)), .val (.ref t), .val (.int (Int32.ofNat cs.length))] [.int (Int32.ofNat cs.length), .int (Int32.ofNat cs.length)] := H6.iloadN d_toby_10
      have H8 : Hr x b_toby Z EL1 1 8 h [t] 32 #[.val (.ref a), .val (.int (Int32.ofNat cs.length)), .val (.int (Int32.ofNat cs.length)), .val (.ref t), .val (.int (Int32.ofNat cs.length))] [] := H7.icmpT d_toby_11 (XT.ii_ge_t (by simp))
      have H9 : Hr x b_toby Z EL1 1 8 h [t] 33 #[.val (.ref a), .val (.int (Int32.ofNat cs.length)), .val (.int (Int32.ofNat cs.length)), .val (.ref t), .val (.int (Int32.ofNat cs.length))] [.ref t] := H8.aloadN d_toby_32
      exact H9.finA d_toby_33 ⟨t, rfl, ht, rfl, by simpa using Fd⟩ (sub1 (by simp))
    | succ k ih =>
      intro i h hi Fa Fd H
      have hi1 : i < cs.length := by omega
      have H10 : Hr x b_toby Z EL1 1 8 h [t] 10 #[.val (.ref a), .val (.int (Int32.ofNat i)), .val (.int (Int32.ofNat cs.length)), .val (.ref t), .val (.int (Int32.ofNat i))] [.int (Int32.ofNat i)] := H.iload d_toby_8
      have H11 : Hr x b_toby Z EL1 1 8 h [t] 11 #[.val (.ref a), .val (.int (Int32.ofNat i)), .val (.int (Int32.ofNat cs.length)), .val (.ref t), .val (.int (Int32.ofNat i))] [.int (Int32.ofNat cs.length), .int (Int32.ofNat i)] := H10.iloadN d_toby_10
      have H12 : Hr x b_toby Z EL1 1 8 h [t] 14 #[.val (.ref a), .val (.int (Int32.ofNat i)), .val (.int (Int32.ofNat cs.length)), .val (.ref t), .val (.int (Int32.ofNat i))] [] := H11.icmpF d_toby_11 (XT.ii_ge_f (lt_ofNat hi1 (by omega)))
      have H13 : Hr x b_toby Z EL1 1 8 h [t] 15 #[.val (.ref a), .val (.int (Int32.ofNat i)), .val (.int (Int32.ofNat cs.length)), .val (.ref t), .val (.int (Int32.ofNat i))] [.ref t] := H12.aloadN d_toby_14
      have H14 : Hr x b_toby Z EL1 1 8 h [t] 17 #[.val (.ref a), .val (.int (Int32.ofNat i)), .val (.int (Int32.ofNat cs.length)), .val (.ref t), .val (.int (Int32.ofNat i))] [.int (Int32.ofNat i), .ref t] := H13.iload d_toby_15
      have H15 : Hr x b_toby Z EL1 1 8 h [t] 18 #[.val (.ref a), .val (.int (Int32.ofNat i)), .val (.int (Int32.ofNat cs.length)), .val (.ref t), .val (.int (Int32.ofNat i))] [.ref a, .int (Int32.ofNat i), .ref t] := H14.aloadN d_toby_17
      have H16 : Hr x b_toby Z EL1 1 8 h [t] 19 #[.val (.ref a), .val (.int (Int32.ofNat i)), .val (.int (Int32.ofNat cs.length)), .val (.ref t), .val (.int (Int32.ofNat i))] [.int (Int32.ofNat i), .ref a, .int (Int32.ofNat i), .ref t] := H15.iloadN d_toby_18
      have H17 : Hr x b_toby Z EL1 1 8 h [t] 20 #[.val (.ref a), .val (.int (Int32.ofNat i)), .val (.int (Int32.ofNat cs.length)), .val (.ref t), .val (.int (Int32.ofNat i))] [.int (cs[i]), .int (Int32.ofNat i), .ref t] := H16.caload Fa d_toby_19 (i := i) rfl (by simp [hi1])
      obtain ⟨_, h', _, ⟨rfl, rfl, Fd2⟩, K2, H18⟩ := H17.callS (argsL := [.ref t, .int (Int32.ofNat i), .int (cs[i])]) (rest := []) (Wr := 0) (ct_putc hw x.l x.nar x.kn hnar h t i cs[i] _ Fd (by rw [List.length_append, u16_len, List.length_take, List.length_replicate]; omega) Sd Sh Sl) (sub1 (by simp)) (w42 hw) (w43 hw) (w26 hw) (w44 hw) d_toby_20 pd_putc rfl (hf := by first | decide | (simp [b_toby, Bx.R]; done) | (simp [b_toby, Bx.R]; omega)) (hl := by first | decide | (simp [b_toby, Bx.R]; done) | (simp [b_toby, Bx.R]; omega)) (hc := by first | decide | (simp [b_toby, Bx.R]; done) | (simp [b_toby, Bx.R]; omega)) (hs := by first | decide | (simp [b_toby, Bx.R]; done) | (simp [b_toby, Bx.R]; omega))
      have H18 : Hr x b_toby Z EL1 1 8 h' [t] 23 #[.val (.ref a), .val (.int (Int32.ofNat i)), .val (.int (Int32.ofNat cs.length)), .val (.ref t), .val (.int (Int32.ofNat i))] [] := H18
      rw [u16_next hi1] at Fd2
      have H19 : Hr x b_toby Z EL1 1 8 h' [t] 26 #[.val (.ref a), .val (.int (Int32.ofNat (i + 1))), .val (.int (Int32.ofNat cs.length)), .val (.ref t), .val (.int (Int32.ofNat i))] [] := H18.iinc d_toby_23 (v := (Int32.ofNat (i + 1))) (hv := (inc_ofNat i).symm)
      have H20 : Hr x b_toby Z EL1 1 8 h' [t] 29 #[.val (.ref a), .val (.int (Int32.ofNat (i + 1))), .val (.int (Int32.ofNat cs.length)), .val (.ref t), .val (.int (Int32.ofNat (i + 1)))] [] := H19.iinc d_toby_26 (v := (Int32.ofNat (i + 1))) (hv := (inc_ofNat i).symm)
      have H21 : Hr x b_toby Z EL1 1 8 h' [t] 8 #[.val (.ref a), .val (.int (Int32.ofNat (i + 1))), .val (.int (Int32.ofNat cs.length)), .val (.ref t), .val (.int (Int32.ofNat (i + 1)))] [] := H20.goto d_toby_29
      exact ih (i + 1) _ (by omega) (Fa.keep K2 (ninS hat nin0)) Fd2 H21
  exact loop cs.length 0 h1 (by omega) (Fa.keep K1 nin0) (by simpa [u16] using Ft) H5
def b_cmp5 : Bx := (({ frames := 0, cells := 0, slots := 0, locals := 0 } : Room), (⟨"java/lang/StringUTF16", "compress", "([CI[BII)I"⟩ : MethodName), jdk_52_method_21_code, 7, (Option.some Jvm.ClassFile.FieldType.int))
theorem ef_cmp5 (a d : Addr) (cs : List Int32) (mI : MethodId) : entryFrame mI #[.ref a, .int (0 : Int32), .ref d, .int (0 : Int32), .int (Int32.ofNat cs.length)] 7 = mkF mI 0 #[.val (.ref a), .val (.int (0 : Int32)), .val (.ref d), .val (.int (0 : Int32)), .val (.int (Int32.ofNat cs.length)), .unset, .unset] [] := by first | (simp [entryFrame, mkF, argsToLocals, Value.category]; done) | rfl
theorem pd_cmp5 : parseMethodDescriptor "([CI[BII)I" = some ⟨[(.array .char), .int, (.array .byte), .int, .int], some .int⟩ := by decide +kernel
set_option maxRecDepth 65536 in
set_option maxHeartbeats 4000000 in
theorem ct_cmp5 {a0 : Array Value} {Z : State} (hw : ∀ d ∈ tables_1, d.before a0 Z = true) (l : Launch) (nar kn : Bool) (hnr : nar = false) (h0 : Heap) (a d : Addr) (cs : List Int32) (Fa : Ar Z h0 a .char (cs.map Value.int)) (Fd : Ar Z h0 d .byte (List.replicate cs.length (.int 0))) (hne : a ≠ d) :
    Ct l Z EL1 (⟨"java/lang/StringUTF16", "compress", "([CI[BII)I"⟩ : MethodName) jdk_52_method_21_code 7 (Option.some Jvm.ClassFile.FieldType.int) ({ frames := 0, cells := 0, slots := 0, locals := 0 } : Room) #[.ref a, .int (0 : Int32), .ref d, .int (0 : Int32), .int (Int32.ofNat cs.length)] h0 [d] nar kn (fun v h sn => sn = [] ∧ ((v = some (.int (Int32.ofNat cs.length)) ∧ Lat cs ∧ Ar Z h d .byte (cs.map fun c => Value.int (b8 c))) ∨ ∃ k, ∃ hk : k < cs.length, v = some (.int (Int32.ofNat k)) ∧ (255 : Int32) < cs[k])) := by
  refine Ct.intro (plainFor_of_name pn_java_lang_StringUTF16) (ew hw) (ef_cmp5 a d cs) ?_
  intro x hl hn0 hkn hsf hh H0
  have hnar : x.nar = false := hn0.trans hnr
  have H0 : Hr x b_cmp5 Z EL1 0 0 h0 [d] 0 #[.val (.ref a), .val (.int (0 : Int32)), .val (.ref d), .val (.int (0 : Int32)), .val (.int (Int32.ofNat cs.length)), .unset, .unset] [] := H0
  have hlen : cs.length < 2147483648 := by simpa using Fa.len
  have H1 : Hr x b_cmp5 Z EL1 0 0 h0 [d] 1 #[.val (.ref a), .val (.int (0 : Int32)), .val (.ref d), .val (.int (0 : Int32)), .val (.int (Int32.ofNat cs.length)), .unset, .unset] [.int (0 : Int32)] := H0.iconst d_cmp5_0
  have H2 : Hr x b_cmp5 Z EL1 0 0 h0 [d] 3 #[.val (.ref a), .val (.int (0 : Int32)), .val (.ref d), .val (.int (0 : Int32)), .val (.int (Int32.ofNat cs.length)), .val (.int (0 : Int32)), .unset] [] := H1.istore d_cmp5_1
  have loop : ∀ (k i : Nat) (h : Heap) (o : Slot), i + k = cs.length → (o = .unset ∨ ∃ w, o = .val w ∧ w.category = 1) → Lat (cs.take i) → Ar Z h a .char (cs.map Value.int) → Ar Z h d .byte ((cs.take i).map (fun c => Value.int (b8 c)) ++ List.replicate k (.int 0)) → Hr x b_cmp5 Z EL1 0 0 h [d] 3 #[.val (.ref a), .val (.int (Int32.ofNat i)), .val (.ref d), .val (.int (Int32.ofNat i)), .val (.int (Int32.ofNat cs.length)), .val (.int (Int32.ofNat i)), o] [] → Ends x b_cmp5 Z EL1 (fun v h sn => sn = [] ∧ ((v = some (.int (Int32.ofNat cs.length)) ∧ Lat cs ∧ Ar Z h d .byte (cs.map fun c => Value.int (b8 c))) ∨ ∃ k, ∃ hk : k < cs.length, v = some (.int (Int32.ofNat k)) ∧ (255 : Int32) < cs[k])) := by
    intro k
    induction k with
    | zero =>
      intro i h o hi ho hla Fa Fd H
      obtain rfl : i = cs.length := by omega
      have H3 : Hr x b_cmp5 Z EL1 0 0 h [d] 5 #[.val (.ref a), .val (.int (Int32.ofNat cs.length)), .val (.ref d), .val (.int (Int32.ofNat cs.length)), .val (.int (Int32.ofNat cs.length)), .val (.int (Int32.ofNat cs.length)), o] [.int (Int32.ofNat cs.length)] := H.iload d_cmp5_3
      have H4 : Hr x b_cmp5 Z EL1 0 0 h [d] 7 #[.val (.ref a), .val (.int (Int32.ofNat cs.length)), .val (.ref d), .val (.int (Int32.ofNat cs.length)), .val (.int (Int32.ofNat cs.length)), .val (.int (Int32.ofNat cs.length)), o] [.int (Int32.ofNat cs.length), .int (Int32.ofNat cs.length)] := H3.iload d_cmp5_5
      have H5 : Hr x b_cmp5 Z EL1 0 0 h [d] 44 #[.val (.ref a), .val (.int (Int32.ofNat cs.length)), .val (.ref d), .val (.int (Int32.ofNat cs.length)), .val (.int (Int32.ofNat cs.length)), .val (.int (Int32.ofNat cs.length)), o] [] := H4.icmpT d_cmp5_7 (XT.ii_ge_t (by simp))
      have H6 : Hr x b_cmp5 Z EL1 0 0 h [d] 46 #[.val (.ref a), .val (.int (Int32.ofNat cs.length)), .val (.ref d), .val (.int (Int32.ofNat cs.length)), .val (.int (Int32.ofNat cs.length)), .val (.int (Int32.ofNat cs.length)), o] [.int (Int32.ofNat cs.length)] := H5.iload d_cmp5_44
      exact H6.finI d_cmp5_46 ⟨rfl, Or.inl ⟨rfl, by simpa using hla, by simpa using Fd⟩⟩ sub0
    | succ k ih =>
      intro i h o hi ho hla Fa Fd H
      have hi1 : i < cs.length := by omega
      have H7 : Hr x b_cmp5 Z EL1 0 0 h [d] 5 #[.val (.ref a), .val (.int (Int32.ofNat i)), .val (.ref d), .val (.int (Int32.ofNat i)), .val (.int (Int32.ofNat cs.length)), .val (.int (Int32.ofNat i)), o] [.int (Int32.ofNat i)] := H.iload d_cmp5_3
      have H8 : Hr x b_cmp5 Z EL1 0 0 h [d] 7 #[.val (.ref a), .val (.int (Int32.ofNat i)), .val (.ref d), .val (.int (Int32.ofNat i)), .val (.int (Int32.ofNat cs.length)), .val (.int (Int32.ofNat i)), o] [.int (Int32.ofNat cs.length), .int (Int32.ofNat i)] := H7.iload d_cmp5_5
      have H9 : Hr x b_cmp5 Z EL1 0 0 h [d] 10 #[.val (.ref a), .val (.int (Int32.ofNat i)), .val (.ref d), .val (.int (Int32.ofNat i)), .val (.int (Int32.ofNat cs.length)), .val (.int (Int32.ofNat i)), o] [] := H8.icmpF d_cmp5_7 (XT.ii_ge_f (lt_ofNat hi1 hlen))
      have H10 : Hr x b_cmp5 Z EL1 0 0 h [d] 11 #[.val (.ref a), .val (.int (Int32.ofNat i)), .val (.ref d), .val (.int (Int32.ofNat i)), .val (.int (Int32.ofNat cs.length)), .val (.int (Int32.ofNat i)), o] [.ref a] := H9.aloadN d_cmp5_10
      have H11 : Hr x b_cmp5 Z EL1 0 0 h [d] 12 #[.val (.ref a), .val (.int (Int32.ofNat i)), .val (.ref d), .val (.int (Int32.ofNat i)), .val (.int (Int32.ofNat cs.length)), .val (.int (Int32.ofNat i)), o] [.int (Int32.ofNat i), .ref a] := H10.iloadN d_cmp5_11
      have H12 : Hr x b_cmp5 Z EL1 0 0 h [d] 13 #[.val (.ref a), .val (.int (Int32.ofNat i)), .val (.ref d), .val (.int (Int32.ofNat i)), .val (.int (Int32.ofNat cs.length)), .val (.int (Int32.ofNat i)), o] [.int (cs[i])] := H11.caload Fa d_cmp5_12 (i := i) rfl (by simp [hi1])
      have H13 : Hr x b_cmp5 Z EL1 0 0 h [d] 15 #[.val (.ref a), .val (.int (Int32.ofNat i)), .val (.ref d), .val (.int (Int32.ofNat i)), .val (.int (Int32.ofNat cs.length)), .val (.int (Int32.ofNat i)), .val (.int (cs[i]))] [] := H12.istore d_cmp5_13 (hl := XS.store1 (o := o) rfl ho rfl)
      have H14 : Hr x b_cmp5 Z EL1 0 0 h [d] 17 #[.val (.ref a), .val (.int (Int32.ofNat i)), .val (.ref d), .val (.int (Int32.ofNat i)), .val (.int (Int32.ofNat cs.length)), .val (.int (Int32.ofNat i)), .val (.int (cs[i]))] [.int (cs[i])] := H13.iload d_cmp5_15
      have H15 : Hr x b_cmp5 Z EL1 0 0 h [d] 20 #[.val (.ref a), .val (.int (Int32.ofNat i)), .val (.ref d), .val (.int (Int32.ofNat i)), .val (.int (Int32.ofNat cs.length)), .val (.int (Int32.ofNat i)), .val (.int (cs[i]))] [.int (255 : Int32), .int (cs[i])] := H14.sipush d_cmp5_17
      by_cases qb : (255 : Int32) < cs[i]
      · have z91 := qb
        have H92 : Hr x b_cmp5 Z EL1 0 0 h [d] 23 #[.val (.ref a), .val (.int (Int32.ofNat i)), .val (.ref d), .val (.int (Int32.ofNat i)), .val (.int (Int32.ofNat cs.length)), .val (.int (Int32.ofNat i)), .val (.int (cs[i]))] [] := H15.icmpF d_cmp5_20 (XT.ii_le_f qb)
        have H93 : Hr x b_cmp5 Z EL1 0 0 h [d] 25 #[.val (.ref a), .val (.int (Int32.ofNat i)), .val (.ref d), .val (.int (Int32.ofNat i)), .val (.int (Int32.ofNat cs.length)), .val (.int (Int32.ofNat i)), .val (.int (cs[i]))] [.int (Int32.ofNat i)] := H92.iload d_cmp5_23
        exact H93.finI d_cmp5_25 ⟨rfl, Or.inr ⟨i, hi1, rfl, qb⟩⟩ sub0
      · have z93 := qb
        have H94 : Hr x b_cmp5 Z EL1 0 0 h [d] 26 #[.val (.ref a), .val (.int (Int32.ofNat i)), .val (.ref d), .val (.int (Int32.ofNat i)), .val (.int (Int32.ofNat cs.length)), .val (.int (Int32.ofNat i)), .val (.int (cs[i]))] [] := H15.icmpT d_cmp5_20 (XT.ii_le_t qb)
        have H95 : Hr x b_cmp5 Z EL1 0 0 h [d] 27 #[.val (.ref a), .val (.int (Int32.ofNat i)), .val (.ref d), .val (.int (Int32.ofNat i)), .val (.int (Int32.ofNat cs.length)), .val (.int (Int32.ofNat i)), .val (.int (cs[i]))] [.ref d] := H94.aloadN d_cmp5_26
        have H96 : Hr x b_cmp5 Z EL1 0 0 h [d] 28 #[.val (.ref a), .val (.int (Int32.ofNat i)), .val (.ref d), .val (.int (Int32.ofNat i)), .val (.int (Int32.ofNat cs.length)), .val (.int (Int32.ofNat i)), .val (.int (cs[i]))] [.int (Int32.ofNat i), .ref d] := H95.iloadN d_cmp5_27
        have H97 : Hr x b_cmp5 Z EL1 0 0 h [d] 30 #[.val (.ref a), .val (.int (Int32.ofNat i)), .val (.ref d), .val (.int (Int32.ofNat i)), .val (.int (Int32.ofNat cs.length)), .val (.int (Int32.ofNat i)), .val (.int (cs[i]))] [.int (cs[i]), .int (Int32.ofNat i), .ref d] := H96.iload d_cmp5_28
        have H98 : Hr x b_cmp5 Z EL1 0 0 h [d] 31 #[.val (.ref a), .val (.int (Int32.ofNat i)), .val (.ref d), .val (.int (Int32.ofNat i)), .val (.int (Int32.ofNat cs.length)), .val (.int (Int32.ofNat i)), .val (.int (cs[i]))] [.int (b8 cs[i]), .int (Int32.ofNat i), .ref d] := H97.i2b d_cmp5_30
        obtain ⟨h', Wd, H99⟩ := H98.bastore (List.mem_singleton.mpr rfl) Fd d_cmp5_31 (i := i) rfl (by simp; omega) (hw := (b8_b8 _))
        have H99 : Hr x b_cmp5 Z EL1 0 0 h' [d] 32 #[.val (.ref a), .val (.int (Int32.ofNat i)), .val (.ref d), .val (.int (Int32.ofNat i)), .val (.int (Int32.ofNat cs.length)), .val (.int (Int32.ofNat i)), .val (.int (cs[i]))] [] := H99
        have H100 : Hr x b_cmp5 Z EL1 0 0 h' [d] 35 #[.val (.ref a), .val (.int (Int32.ofNat (i + 1))), .val (.ref d), .val (.int (Int32.ofNat i)), .val (.int (Int32.ofNat cs.length)), .val (.int (Int32.ofNat i)), .val (.int (cs[i]))] [] := H99.iinc d_cmp5_32 (v := (Int32.ofNat (i + 1))) (hv := (inc_ofNat i).symm)
        have H101 : Hr x b_cmp5 Z EL1 0 0 h' [d] 38 #[.val (.ref a), .val (.int (Int32.ofNat (i + 1))), .val (.ref d), .val (.int (Int32.ofNat (i + 1))), .val (.int (Int32.ofNat cs.length)), .val (.int (Int32.ofNat i)), .val (.int (cs[i]))] [] := H100.iinc d_cmp5_35 (v := (Int32.ofNat (i + 1))) (hv := (inc_ofNat i).symm)
        have H102 : Hr x b_cmp5 Z EL1 0 0 h' [d] 41 #[.val (.ref a), .val (.int (Int32.ofNat (i + 1))), .val (.ref d), .val (.int (Int32.ofNat (i + 1))), .val (.int (Int32.ofNat cs.length)), .val (.int (Int32.ofNat (i + 1))), .val (.int (cs[i]))] [] := H101.iinc d_cmp5_38 (v := (Int32.ofNat (i + 1))) (hv := (inc_ofNat i).symm)
        have H103 : Hr x b_cmp5 Z EL1 0 0 h' [d] 3 #[.val (.ref a), .val (.int (Int32.ofNat (i + 1))), .val (.ref d), .val (.int (Int32.ofNat (i + 1))), .val (.int (Int32.ofNat cs.length)), .val (.int (Int32.ofNat (i + 1))), .val (.int (cs[i]))] [] := H102.goto d_cmp5_41
        refine ih (i + 1) _ _ (by omega) (Or.inr ⟨_, rfl, rfl⟩) ?_ (Fa.other Wd hne) ?_ H103
        · intro c hc; rw [List.take_add_one, List.getElem?_eq_getElem hi1] at hc; rcases List.mem_append.mp hc with hc | hc
          · exact hla c hc
          · obtain rfl : c = cs[i] := by simpa using hc
            exact qb
        · have := Fd.set Wd; rw [set_next (f := fun c => Value.int (b8 c)) hi1] at this; exact this
  exact loop cs.length 0 h0 .unset (by omega) (Or.inl rfl) (fun c hc => by simp at hc) Fa (by simpa using Fd) H2
def b_cmp3 : Bx := (({ frames := 3, cells := 2, slots := 12, locals := 40 } : Room), (⟨"java/lang/StringUTF16", "compress", "([CII)[B"⟩ : MethodName), jdk_52_method_16_code, 6, (Option.some (Jvm.ClassFile.FieldType.array Jvm.ClassFile.FieldType.byte)))
theorem ef_cmp3 (a : Addr) (cs : List Int32) (mI : MethodId) : entryFrame mI #[.ref a, .int (0 : Int32), .int (Int32.ofNat cs.length)] 6 = mkF mI 0 #[.val (.ref a), .val (.int (0 : Int32)), .val (.int (Int32.ofNat cs.length)), .unset, .unset, .unset] [] := by first | (simp [entryFrame, mkF, argsToLocals, Value.category]; done) | rfl
theorem pd_cmp3 : parseMethodDescriptor "([CII)[B" = some ⟨[(.array .char), .int, .int], some (.array .byte)⟩ := by decide +kernel
set_option maxRecDepth 65536 in
set_option maxHeartbeats 4000000 in
theorem ct_cmp3 {a0 : Array Value} {Z : State} (hw : ∀ d ∈ tables_1, d.before a0 Z = true) (l : Launch) (nar kn : Bool) (hnr : nar = false) (h0 : Heap) (a : Addr) (cs : List Int32) (Fa : Ar Z h0 a .char (cs.map Value.int)) (hcap : cs.length ≤ 4) (hc : CHL cs) (Sd : Sta Z Z.heap "java/lang/StringUTF16" "$assertionsDisabled" "Z" (.int 1)) (Sh : Sta Z Z.heap "java/lang/StringUTF16" "HI_BYTE_SHIFT" "I" (.int 0)) (Sl : Sta Z Z.heap "java/lang/StringUTF16" "LO_BYTE_SHIFT" "I" (.int 8)) :
    Ct l Z EL1 (⟨"java/lang/StringUTF16", "compress", "([CII)[B"⟩ : MethodName) jdk_52_method_16_code 6 (Option.some (Jvm.ClassFile.FieldType.array Jvm.ClassFile.FieldType.byte)) ({ frames := 3, cells := 2, slots := 12, locals := 40 } : Room) #[.ref a, .int (0 : Int32), .int (Int32.ofNat cs.length)] h0 [] nar kn (fun v h sn => ∃ t, v = some (.ref t) ∧ h0.size ≤ t ∧ sn = [t] ∧ ((Lat cs ∧ Ar Z h t .byte ((cs.map b8).map Value.int)) ∨ (¬ Lat cs ∧ Ar Z h t .byte (u16 cs)))) := by
  refine Ct.intro (plainFor_of_name pn_java_lang_StringUTF16) (ew hw) (ef_cmp3 a cs) ?_
  intro x hl hn0 hkn hsf hh H0
  have hnar : x.nar = false := hn0.trans hnr
  have H0 : Hr x b_cmp3 Z EL1 0 0 h0 [] 0 #[.val (.ref a), .val (.int (0 : Int32)), .val (.int (Int32.ofNat cs.length)), .unset, .unset, .unset] [] := H0
  have hcl : (Int32.ofNat cs.length).toNatClampNeg = cs.length := clamp_of rfl (by omega)
  have H1 : Hr x b_cmp3 Z EL1 0 0 h0 [] 1 #[.val (.ref a), .val (.int (0 : Int32)), .val (.int (Int32.ofNat cs.length)), .unset, .unset, .unset] [.int (Int32.ofNat cs.length)] := H0.iloadN d_cmp3_0
  obtain ⟨h1, E1, Fd, H2⟩ := H1.newarray (aty := .byte) (cap := 4) (w28 hw) d_cmp3_1 (nn32 (by omega)) (by rw [hcl]; exact hcap) (by decide) (by first | decide | (simp [b_cmp3, Bx.R]; done) | (simp [b_cmp3, Bx.R]; omega)) (by first | decide | (simp [b_cmp3, Bx.R]; done) | (simp [b_cmp3, Bx.R]; omega))
  obtain ⟨d, g_d⟩ : ∃ z, z = h0.size := ⟨_, rfl⟩
  rw [← g_d] at Fd H2
  have Fd : Ar Z h1 d .byte (List.replicate cs.length (.int 0)) := (by have := Fd; rw [hcl] at this; exact this)
  have H2 : Hr x b_cmp3 Z EL1 1 4 h1 [d] 3 #[.val (.ref a), .val (.int (0 : Int32)), .val (.int (Int32.ofNat cs.length)), .unset, .unset, .unset] [.ref d] := H2
  have had : @Ne Nat a d := by have := Fa.lt; omega
  have H3 : Hr x b_cmp3 Z EL1 1 4 h1 [d] 4 #[.val (.ref a), .val (.int (0 : Int32)), .val (.int (Int32.ofNat cs.length)), .val (.ref d), .unset, .unset] [] := H2.astoreN d_cmp3_3
  have H4 : Hr x b_cmp3 Z EL1 1 4 h1 [d] 5 #[.val (.ref a), .val (.int (0 : Int32)), .val (.int (Int32.ofNat cs.length)), .val (.ref d), .unset, .unset] [.ref a] := H3.aloadN d_cmp3_4
  have H5 : Hr x b_cmp3 Z EL1 1 4 h1 [d] 6 #[.val (.ref a), .val (.int (0 : Int32)), .val (.int (Int32.ofNat cs.length)), .val (.ref d), .unset, .unset] [.int (0 : Int32), .ref a] := H4.iloadN d_cmp3_5
  have H6 : Hr x b_cmp3 Z EL1 1 4 h1 [d] 7 #[.val (.ref a), .val (.int (0 : Int32)), .val (.int (Int32.ofNat cs.length)), .val (.ref d), .unset, .unset] [.ref d, .int (0 : Int32), .ref a] := H5.aloadN d_cmp3_6
  have H7 : Hr x b_cmp3 Z EL1 1 4 h1 [d] 8 #[.val (.ref a), .val (.int (0 : Int32)), .val (.int (Int32.ofNat cs.length)), .val (.ref d), .unset, .unset] [.int (0 : Int32), .ref d, .int (0 : Int32), .ref a] := H6.iconst d_cmp3_7
  have H8 : Hr x b_cmp3 Z EL1 1 4 h1 [d] 9 #[.val (.ref a), .val (.int (0 : Int32)), .val (.int (Int32.ofNat cs.length)), .val (.ref d), .unset, .unset] [.int (Int32.ofNat cs.length), .int (0 : Int32), .ref d, .int (0 : Int32), .ref a] := H7.iloadN d_cmp3_8
  obtain ⟨_, h2, _, ⟨rfl, Q2⟩, K2, H9⟩ := H8.callS (argsL := [.ref a, .int (0 : Int32), .ref d, .int (0 : Int32), .int (Int32.ofNat cs.length)]) (rest := []) (Wr := 0) (ct_cmp5 hw x.l x.nar x.kn hnar h1 a d cs (Fa.ext E1) Fd had) (sub1 (by simp)) (w29 hw) (w30 hw) (w26 hw) (w31 hw) d_cmp3_9 pd_cmp5 rfl (hf := by first | decide | (simp [b_cmp3, Bx.R]; done) | (simp [b_cmp3, Bx.R]; omega)) (hl := by first | decide | (simp [b_cmp3, Bx.R]; done) | (simp [b_cmp3, Bx.R]; omega)) (hc := by first | decide | (simp [b_cmp3, Bx.R]; done) | (simp [b_cmp3, Bx.R]; omega)) (hs := by first | decide | (simp [b_cmp3, Bx.R]; done) | (simp [b_cmp3, Bx.R]; omega))
  rcases Q2 with ⟨rfl, hla, Fd2⟩ | ⟨k, hk, rfl, hbig⟩
  · have z103 := True.intro
    have H9 : Hr x b_cmp3 Z EL1 1 4 h2 [d] 12 #[.val (.ref a), .val (.int (0 : Int32)), .val (.int (Int32.ofNat cs.length)), .val (.ref d), .unset, .unset] [.int (Int32.ofNat cs.length)] := H9
    have H104 : Hr x b_cmp3 Z EL1 1 4 h2 [d] 14 #[.val (.ref a), .val (.int (0 : Int32)), .val (.int (Int32.ofNat cs.length)), .val (.ref d), .val (.int (Int32.ofNat cs.length)), .unset] [] := H9.istore d_cmp3_12
    have H105 : Hr x b_cmp3 Z EL1 1 4 h2 [d] 16 #[.val (.ref a), .val (.int (0 : Int32)), .val (.int (Int32.ofNat cs.length)), .val (.ref d), .val (.int (Int32.ofNat cs.length)), .unset] [.int (Int32.ofNat cs.length)] := H104.iload d_cmp3_14
    have H106 : Hr x b_cmp3 Z EL1 1 4 h2 [d] 17 #[.val (.ref a), .val (.int (0 : Int32)), .val (.int (Int32.ofNat cs.length)), .val (.ref d), .val (.int (Int32.ofNat cs.length)), .unset] [.int (Int32.ofNat cs.length), .int (Int32.ofNat cs.length)] := H105.iloadN d_cmp3_16
    have H107 : Hr x b_cmp3 Z EL1 1 4 h2 [d] 57 #[.val (.ref a), .val (.int (0 : Int32)), .val (.int (Int32.ofNat cs.length)), .val (.ref d), .val (.int (Int32.ofNat cs.length)), .unset] [] := H106.icmpT d_cmp3_17 (XT.ii_eq_t rfl)
    have H108 : Hr x b_cmp3 Z EL1 1 4 h2 [d] 58 #[.val (.ref a), .val (.int (0 : Int32)), .val (.int (Int32.ofNat cs.length)), .val (.ref d), .val (.int (Int32.ofNat cs.length)), .unset] [.ref d] := H107.aloadN d_cmp3_57
    exact H108.finA d_cmp3_58 ⟨d, rfl, by omega, rfl, Or.inl ⟨hla, by simpa [List.map_map, Function.comp_def] using Fd2⟩⟩ (sub1 (by simp))
  · have z108 := True.intro
    have H9 : Hr x b_cmp3 Z EL1 1 4 h2 [d] 12 #[.val (.ref a), .val (.int (0 : Int32)), .val (.int (Int32.ofNat cs.length)), .val (.ref d), .unset, .unset] [.int (Int32.ofNat k)] := H9
    have H109 : Hr x b_cmp3 Z EL1 1 4 h2 [d] 14 #[.val (.ref a), .val (.int (0 : Int32)), .val (.int (Int32.ofNat cs.length)), .val (.ref d), .val (.int (Int32.ofNat k)), .unset] [] := H9.istore d_cmp3_12
    have H110 : Hr x b_cmp3 Z EL1 1 4 h2 [d] 16 #[.val (.ref a), .val (.int (0 : Int32)), .val (.int (Int32.ofNat cs.length)), .val (.ref d), .val (.int (Int32.ofNat k)), .unset] [.int (Int32.ofNat k)] := H109.iload d_cmp3_14
    have H111 : Hr x b_cmp3 Z EL1 1 4 h2 [d] 17 #[.val (.ref a), .val (.int (0 : Int32)), .val (.int (Int32.ofNat cs.length)), .val (.ref d), .val (.int (Int32.ofNat k)), .unset] [.int (Int32.ofNat cs.length), .int (Int32.ofNat k)] := H110.iloadN d_cmp3_16
    have H112 : Hr x b_cmp3 Z EL1 1 4 h2 [d] 20 #[.val (.ref a), .val (.int (0 : Int32)), .val (.int (Int32.ofNat cs.length)), .val (.ref d), .val (.int (Int32.ofNat k)), .unset] [] := H111.icmpF d_cmp3_17 (XT.ii_eq_f fun q => by have := ofNat_inj (by omega) (by omega) q; omega)
    have H113 : Hr x b_cmp3 Z EL1 1 4 h2 [d] 21 #[.val (.ref a), .val (.int (0 : Int32)), .val (.int (Int32.ofNat cs.length)), .val (.ref d), .val (.int (Int32.ofNat k)), .unset] [.ref a] := H112.aloadN d_cmp3_20
    have H114 : Hr x b_cmp3 Z EL1 1 4 h2 [d] 22 #[.val (.ref a), .val (.int (0 : Int32)), .val (.int (Int32.ofNat cs.length)), .val (.ref d), .val (.int (Int32.ofNat k)), .unset] [.int (0 : Int32), .ref a] := H113.iloadN d_cmp3_21
    have H115 : Hr x b_cmp3 Z EL1 1 4 h2 [d] 23 #[.val (.ref a), .val (.int (0 : Int32)), .val (.int (Int32.ofNat cs.length)), .val (.ref d), .val (.int (Int32.ofNat k)), .unset] [.int (Int32.ofNat cs.length), .int (0 : Int32), .ref a] := H114.iloadN d_cmp3_22
    obtain ⟨_, h3, _, ⟨t, rfl, ht, rfl, Ft⟩, K3, H116⟩ := H115.callS (argsL := [.ref a, .int (0 : Int32), .int (Int32.ofNat cs.length)]) (rest := []) (Wr := 0) (ct_toby hw x.l x.nar x.kn hnar h2 a cs ((Fa.ext E1).keep K2 (ninS had nin0)) hcap Sd Sh Sl) sub0 (w32 hw) (w33 hw) (w26 hw) (w34 hw) d_cmp3_23 pd_toby rfl (hf := by first | decide | (simp [b_cmp3, Bx.R]; done) | (simp [b_cmp3, Bx.R]; omega)) (hl := by first | decide | (simp [b_cmp3, Bx.R]; done) | (simp [b_cmp3, Bx.R]; omega)) (hc := by first | decide | (simp [b_cmp3, Bx.R]; done) | (simp [b_cmp3, Bx.R]; omega)) (hs := by first | decide | (simp [b_cmp3, Bx.R]; done) | (simp [b_cmp3, Bx.R]; omega))
    have H116 : Hr x b_cmp3 Z EL1 2 12 h3 [t, d] 26 #[.val (.ref a), .val (.int (0 : Int32)), .val (.int (Int32.ofNat cs.length)), .val (.ref d), .val (.int (Int32.ofNat k)), .unset] [.ref t] := H116
    have H117 : Hr x b_cmp3 Z EL1 2 12 h3 [t, d] 28 #[.val (.ref a), .val (.int (0 : Int32)), .val (.int (Int32.ofNat cs.length)), .val (.ref d), .val (.int (Int32.ofNat k)), .val (.ref t)] [] := H116.astore d_cmp3_26
    have H118 : Hr x b_cmp3 Z EL1 2 12 h3 [t, d] 30 #[.val (.ref a), .val (.int (0 : Int32)), .val (.int (Int32.ofNat cs.length)), .val (.ref d), .val (.int (Int32.ofNat k)), .val (.ref t)] [.ref t] := H117.aload d_cmp3_28
    have H119 : Hr x b_cmp3 Z EL1 2 12 h3 [t, d] 32 #[.val (.ref a), .val (.int (0 : Int32)), .val (.int (Int32.ofNat cs.length)), .val (.ref d), .val (.int (Int32.ofNat k)), .val (.ref t)] [.int (Int32.ofNat k), .ref t] := H118.iload d_cmp3_30
    obtain ⟨_, h4, _, ⟨rfl, rfl, e4⟩, K4, H120⟩ := H119.callS (argsL := [.ref t, .int (Int32.ofNat k)]) (rest := []) (Wr := 0) (ct_getc hw x.l x.nar x.kn hnar h3 t k cs hk Ft hc Sd Sh Sl) sub0 (w48 hw) (w49 hw) (w26 hw) (w50 hw) d_cmp3_32 pd_getc rfl (hf := by first | decide | (simp [b_cmp3, Bx.R]; done) | (simp [b_cmp3, Bx.R]; omega)) (hl := by first | decide | (simp [b_cmp3, Bx.R]; done) | (simp [b_cmp3, Bx.R]; omega)) (hc := by first | decide | (simp [b_cmp3, Bx.R]; done) | (simp [b_cmp3, Bx.R]; omega)) (hs := by first | decide | (simp [b_cmp3, Bx.R]; done) | (simp [b_cmp3, Bx.R]; omega))
    rw [e4] at H120
    have H120 : Hr x b_cmp3 Z EL1 2 12 h3 [t, d] 35 #[.val (.ref a), .val (.int (0 : Int32)), .val (.int (Int32.ofNat cs.length)), .val (.ref d), .val (.int (Int32.ofNat k)), .val (.ref t)] [.int (cs[k])] := H120
    have H121 : Hr x b_cmp3 Z EL1 2 12 h3 [t, d] 38 #[.val (.ref a), .val (.int (0 : Int32)), .val (.int (Int32.ofNat cs.length)), .val (.ref d), .val (.int (Int32.ofNat k)), .val (.ref t)] [.int (255 : Int32), .int (cs[k])] := H120.sipush d_cmp3_35
    have H122 : Hr x b_cmp3 Z EL1 2 12 h3 [t, d] 54 #[.val (.ref a), .val (.int (0 : Int32)), .val (.int (Int32.ofNat cs.length)), .val (.ref d), .val (.int (Int32.ofNat k)), .val (.ref t)] [] := H121.icmpT d_cmp3_38 (XT.ii_gt_t hbig)
    have H123 : Hr x b_cmp3 Z EL1 2 12 h3 [t, d] 56 #[.val (.ref a), .val (.int (0 : Int32)), .val (.int (Int32.ofNat cs.length)), .val (.ref d), .val (.int (Int32.ofNat k)), .val (.ref t)] [.ref t] := H122.aload d_cmp3_54
    have hgrow := K2.1
    have hE := E1.1
    exact H123.finA d_cmp3_56 ⟨t, rfl, by omega, rfl, Or.inr ⟨fun q => q _ (List.getElem_mem hk) hbig, Ft⟩⟩ (sub1 (by simp))
def b_cfal : Bx := (({ frames := 0, cells := 0, slots := 0, locals := 0 } : Room), (⟨"java/lang/StringUTF16", "coderFromArrayLen", "([BI)B"⟩ : MethodName), jdk_52_method_15_code, 2, (Option.some Jvm.ClassFile.FieldType.byte))
theorem ef_cfal (d : Addr) (n : Nat) (mI : MethodId) : entryFrame mI #[.ref d, .int (Int32.ofNat n)] 2 = mkF mI 0 #[.val (.ref d), .val (.int (Int32.ofNat n))] [] := by first | (simp [entryFrame, mkF, argsToLocals, Value.category]; done) | rfl
theorem pd_cfal : parseMethodDescriptor "([BI)B" = some ⟨[(.array .byte), .int], some .byte⟩ := by decide +kernel
set_option maxRecDepth 65536 in
set_option maxHeartbeats 4000000 in
theorem ct_cfal {a0 : Array Value} {Z : State} (hw : ∀ d ∈ tables_1, d.before a0 Z = true) (l : Launch) (nar kn : Bool) (hnr : nar = false) (h0 : Heap) (d : Addr) (vs : List Value) (n : Nat) (hn : vs.length = n) (Fd : Ar Z h0 d .byte vs) :
    Ct l Z EL1 (⟨"java/lang/StringUTF16", "coderFromArrayLen", "([BI)B"⟩ : MethodName) jdk_52_method_15_code 2 (Option.some Jvm.ClassFile.FieldType.byte) ({ frames := 0, cells := 0, slots := 0, locals := 0 } : Room) #[.ref d, .int (Int32.ofNat n)] h0 [] nar kn (fun v h sn => v = some (.int 0) ∧ sn = [] ∧ h = h0) := by
  refine Ct.intro (plainFor_of_name pn_java_lang_StringUTF16) (ew hw) (ef_cfal d n) ?_
  intro x hl hn0 hkn hsf hh H0
  have hnar : x.nar = false := hn0.trans hnr
  have H0 : Hr x b_cfal Z EL1 0 0 h0 [] 0 #[.val (.ref d), .val (.int (Int32.ofNat n))] [] := H0
  have H1 : Hr x b_cfal Z EL1 0 0 h0 [] 1 #[.val (.ref d), .val (.int (Int32.ofNat n))] [.int (Int32.ofNat n)] := H0.iloadN d_cfal_0
  have H2 : Hr x b_cfal Z EL1 0 0 h0 [] 2 #[.val (.ref d), .val (.int (Int32.ofNat n))] [.ref d, .int (Int32.ofNat n)] := H1.aloadN d_cfal_1
  have H3 : Hr x b_cfal Z EL1 0 0 h0 [] 3 #[.val (.ref d), .val (.int (Int32.ofNat n))] [.int (Int32.ofNat n), .int (Int32.ofNat n)] := H2.arraylength Fd d_cfal_2 (hn := (by rw [hn]))
  have H4 : Hr x b_cfal Z EL1 0 0 h0 [] 4 #[.val (.ref d), .val (.int (Int32.ofNat n))] [.int (0 : Int32)] := H3.isub d_cfal_3 (hv := (by simp))
  have H5 : Hr x b_cfal Z EL1 0 0 h0 [] 6 #[.val (.ref d), .val (.int (Int32.ofNat n))] [.int (31 : Int32), .int (0 : Int32)] := H4.bipush d_cfal_4
  have H6 : Hr x b_cfal Z EL1 0 0 h0 [] 7 #[.val (.ref d), .val (.int (Int32.ofNat n))] [.int (0 : Int32)] := H5.iushr d_cfal_6 (hv := (by decide))
  have H7 : Hr x b_cfal Z EL1 0 0 h0 [] 8 #[.val (.ref d), .val (.int (Int32.ofNat n))] [.int (0 : Int32)] := H6.i2b d_cfal_7 (hv := (by decide))
  exact H7.finZ d_cfal_8 (t := .byte) (by first | rfl | decide) ⟨rfl, rfl, rfl⟩ sub0
set_option maxRecDepth 65536 in
set_option maxHeartbeats 4000000 in
theorem ct_cfal2 {a0 : Array Value} {Z : State} (hw : ∀ d ∈ tables_1, d.before a0 Z = true) (l : Launch) (nar kn : Bool) (hnr : nar = false) (h0 : Heap) (d : Addr) (vs : List Value) (n : Nat) (hn : vs.length = 2 * n) (hp : 0 < n) (hq : n ≤ 4) (Fd : Ar Z h0 d .byte vs) :
    Ct l Z EL1 (⟨"java/lang/StringUTF16", "coderFromArrayLen", "([BI)B"⟩ : MethodName) jdk_52_method_15_code 2 (Option.some Jvm.ClassFile.FieldType.byte) ({ frames := 0, cells := 0, slots := 0, locals := 0 } : Room) #[.ref d, .int (Int32.ofNat n)] h0 [] nar kn (fun v h sn => v = some (.int 1) ∧ sn = [] ∧ h = h0) := by
  refine Ct.intro (plainFor_of_name pn_java_lang_StringUTF16) (ew hw) (ef_cfal d n) ?_
  intro x hl hn0 hkn hsf hh H0
  have hnar : x.nar = false := hn0.trans hnr
  have H0 : Hr x b_cfal Z EL1 0 0 h0 [] 0 #[.val (.ref d), .val (.int (Int32.ofNat n))] [] := H0
  have H1 : Hr x b_cfal Z EL1 0 0 h0 [] 1 #[.val (.ref d), .val (.int (Int32.ofNat n))] [.int (Int32.ofNat n)] := H0.iloadN d_cfal_0
  have H2 : Hr x b_cfal Z EL1 0 0 h0 [] 2 #[.val (.ref d), .val (.int (Int32.ofNat n))] [.ref d, .int (Int32.ofNat n)] := H1.aloadN d_cfal_1
  have H3 : Hr x b_cfal Z EL1 0 0 h0 [] 3 #[.val (.ref d), .val (.int (Int32.ofNat n))] [.int (Int32.ofNat (2 * n)), .int (Int32.ofNat n)] := H2.arraylength Fd d_cfal_2 (hn := (by rw [hn]))
  have H4 : Hr x b_cfal Z EL1 0 0 h0 [] 4 #[.val (.ref d), .val (.int (Int32.ofNat n))] [.int ((Int32.ofNat n) - (Int32.ofNat (2 * n)))] := H3.isub d_cfal_3
  have H5 : Hr x b_cfal Z EL1 0 0 h0 [] 6 #[.val (.ref d), .val (.int (Int32.ofNat n))] [.int (31 : Int32), .int ((Int32.ofNat n) - (Int32.ofNat (2 * n)))] := H4.bipush d_cfal_4
  have H6 : Hr x b_cfal Z EL1 0 0 h0 [] 7 #[.val (.ref d), .val (.int (Int32.ofNat n))] [.int (1 : Int32)] := H5.iushr d_cfal_6 (hv := (neg_ushr hp hq))
  have H7 : Hr x b_cfal Z EL1 0 0 h0 [] 8 #[.val (.ref d), .val (.int (Int32.ofNat n))] [.int (1 : Int32)] := H6.i2b d_cfal_7 (hv := (by decide))
  exact H7.finZ d_cfal_8 (t := .byte) (by first | rfl | decide) ⟨rfl, rfl, rfl⟩ sub0
def b_sini4 : Bx := (({ frames := 4, cells := 2, slots := 12, locals := 57 } : Room), (⟨"java/lang/String", "<init>", "([CIILjava/lang/Void;)V"⟩ : MethodName), jdk_42_method_149_code, 6, (Option.none : Option Jvm.ClassFile.FieldType))
theorem ef_sini4 (s a : Addr) (cs : List Int32) (mI : MethodId) : entryFrame mI #[.ref s, .ref a, .int (0 : Int32), .int (Int32.ofNat cs.length), .null] 6 = mkF mI 0 #[.val (.ref s), .val (.ref a), .val (.int (0 : Int32)), .val (.int (Int32.ofNat cs.length)), .val (.null), .unset] [] := by first | (simp [entryFrame, mkF, argsToLocals, Value.category]; done) | rfl
theorem pn_java_lang_String : plainName "java/lang/String" = true := by first | (simp [plainName, overriddenIn]; done) | decide +kernel
theorem pd_sini4 : parseMethodDescriptor "([CIILjava/lang/Void;)V" = some ⟨[(.array .char), .int, .int, (.object "java/lang/Void")], none⟩ := by decide +kernel
set_option maxRecDepth 65536 in
set_option maxHeartbeats 4000000 in
theorem ct_sini4 {a0 : Array Value} {Z : State} (hw : ∀ d ∈ tables_1, d.before a0 Z = true) (l : Launch) (nar kn : Bool) (hnr : nar = false) (h0 : Heap) (s a : Addr) (cs : List Int32) (Es : Exa Z h0 s "java/lang/String") (Fc : Fld Z h0 s "java/lang/String" "coder" "B" (.int 0)) (Fv : Fld Z h0 s "java/lang/String" "value" "[B" .null) (Fa : Ar Z h0 a .char (cs.map Value.int)) (hcap : cs.length ≤ 4) (hpos : 0 < cs.length) (hc : CHL cs) (cz : Int32) (O : Sta Z Z.heap "java/lang/String" "COMPACT_STRINGS" "Z" (.int cz)) (hcz : ¬ cz = 0) (Sd : Sta Z Z.heap "java/lang/StringUTF16" "$assertionsDisabled" "Z" (.int 1)) (Sh : Sta Z Z.heap "java/lang/StringUTF16" "HI_BYTE_SHIFT" "I" (.int 0)) (Sl : Sta Z Z.heap "java/lang/StringUTF16" "LO_BYTE_SHIFT" "I" (.int 8)) :
    Ct l Z EL1 (⟨"java/lang/String", "<init>", "([CIILjava/lang/Void;)V"⟩ : MethodName) jdk_42_method_149_code 6 (Option.none : Option Jvm.ClassFile.FieldType) ({ frames := 4, cells := 2, slots := 12, locals := 57 } : Room) #[.ref s, .ref a, .int (0 : Int32), .int (Int32.ofNat cs.length), .null] h0 [s] nar kn (fun v h sn => v = none ∧ sn = [] ∧ SS Z h s cs) := by
  refine Ct.intro (plainFor_of_name pn_java_lang_String) (ew hw) (ef_sini4 s a cs) ?_
  intro x hl hn0 hkn hsf hh H0
  have hnar : x.nar = false := hn0.trans hnr
  have H0 : Hr x b_sini4 Z EL1 0 0 h0 [s] 0 #[.val (.ref s), .val (.ref a), .val (.int (0 : Int32)), .val (.int (Int32.ofNat cs.length)), .val (.null), .unset] [] := H0
  have H1 : Hr x b_sini4 Z EL1 0 0 h0 [s] 1 #[.val (.ref s), .val (.ref a), .val (.int (0 : Int32)), .val (.int (Int32.ofNat cs.length)), .val (.null), .unset] [.ref s] := H0.aloadN d_sini4_0
  have H2 : Hr x b_sini4 Z EL1 0 0 h0 [s] 4 #[.val (.ref s), .val (.ref a), .val (.int (0 : Int32)), .val (.int (Int32.ofNat cs.length)), .val (.null), .unset] [] := H1.initO (Wr := 0) (w20 hw) (w21 hw) (w22 hw) d_sini4_1 (hf := by first | decide | (simp [b_sini4, Bx.R]; done) | (simp [b_sini4, Bx.R]; omega)) (hl := by first | decide | (simp [b_sini4, Bx.R]; done) | (simp [b_sini4, Bx.R]; omega))
  have H3 : Hr x b_sini4 Z EL1 0 0 h0 [s] 5 #[.val (.ref s), .val (.ref a), .val (.int (0 : Int32)), .val (.int (Int32.ofNat cs.length)), .val (.null), .unset] [.int (Int32.ofNat cs.length)] := H2.iloadN d_sini4_4
  have hn0 : ¬ Int32.ofNat cs.length = 0 := fun q => by have := ofNat_inj (m := cs.length) (n := 0) (by omega) (by decide) q; omega
  have H4 : Hr x b_sini4 Z EL1 0 0 h0 [s] 27 #[.val (.ref s), .val (.ref a), .val (.int (0 : Int32)), .val (.int (Int32.ofNat cs.length)), .val (.null), .unset] [] := H3.ifT d_sini4_5 (XT.i0_ne_t hn0)
  have H5 : Hr x b_sini4 Z EL1 0 0 h0 [s] 30 #[.val (.ref s), .val (.ref a), .val (.int (0 : Int32)), .val (.int (Int32.ofNat cs.length)), .val (.null), .unset] [.int cz] := H4.getS (w23 hw) (O.ext H4.old) d_sini4_27
  have H6 : Hr x b_sini4 Z EL1 0 0 h0 [s] 33 #[.val (.ref s), .val (.ref a), .val (.int (0 : Int32)), .val (.int (Int32.ofNat cs.length)), .val (.null), .unset] [] := H5.ifF d_sini4_30 (XT.i0_eq_f hcz)
  have H7 : Hr x b_sini4 Z EL1 0 0 h0 [s] 34 #[.val (.ref s), .val (.ref a), .val (.int (0 : Int32)), .val (.int (Int32.ofNat cs.length)), .val (.null), .unset] [.ref a] := H6.aloadN d_sini4_33
  have H8 : Hr x b_sini4 Z EL1 0 0 h0 [s] 35 #[.val (.ref s), .val (.ref a), .val (.int (0 : Int32)), .val (.int (Int32.ofNat cs.length)), .val (.null), .unset] [.int (0 : Int32), .ref a] := H7.iloadN d_sini4_34
  have H9 : Hr x b_sini4 Z EL1 0 0 h0 [s] 36 #[.val (.ref s), .val (.ref a), .val (.int (0 : Int32)), .val (.int (Int32.ofNat cs.length)), .val (.null), .unset] [.int (Int32.ofNat cs.length), .int (0 : Int32), .ref a] := H8.iloadN d_sini4_35
  obtain ⟨_, h1, _, ⟨t, rfl, ht, rfl, Q1⟩, K1, H10⟩ := H9.callS (argsL := [.ref a, .int (0 : Int32), .int (Int32.ofNat cs.length)]) (rest := []) (Wr := 0) (ct_cmp3 hw x.l x.nar x.kn hnar h0 a cs Fa hcap hc Sd Sh Sl) sub0 (w24 hw) (w25 hw) (w26 hw) (w27 hw) d_sini4_36 pd_cmp3 rfl (hf := by first | decide | (simp [b_sini4, Bx.R]; done) | (simp [b_sini4, Bx.R]; omega)) (hl := by first | decide | (simp [b_sini4, Bx.R]; done) | (simp [b_sini4, Bx.R]; omega)) (hc := by first | decide | (simp [b_sini4, Bx.R]; done) | (simp [b_sini4, Bx.R]; omega)) (hs := by first | decide | (simp [b_sini4, Bx.R]; done) | (simp [b_sini4, Bx.R]; omega))
  have H10 : Hr x b_sini4 Z EL1 2 12 h1 [t, s] 39 #[.val (.ref s), .val (.ref a), .val (.int (0 : Int32)), .val (.int (Int32.ofNat cs.length)), .val (.null), .unset] [.ref t] := H10
  have hlt := exa_lt Es
  have hst : @Ne Nat s t := by omega
  have slne := slot_ne (a0 := a0) (C := "java/lang/String") (n := "value") (n' := "coder") (Or.inr (w57 hw)) (Or.inr (w55 hw)) (by decide) (t := .array .byte) (t' := .byte) (by decide) (by decide)
  have H11 : Hr x b_sini4 Z EL1 2 12 h1 [t, s] 41 #[.val (.ref s), .val (.ref a), .val (.int (0 : Int32)), .val (.int (Int32.ofNat cs.length)), .val (.null), .val (.ref t)] [] := H10.astore d_sini4_39
  have H12 : Hr x b_sini4 Z EL1 2 12 h1 [t, s] 42 #[.val (.ref s), .val (.ref a), .val (.int (0 : Int32)), .val (.int (Int32.ofNat cs.length)), .val (.null), .val (.ref t)] [.ref s] := H11.aloadN d_sini4_41
  have H13 : Hr x b_sini4 Z EL1 2 12 h1 [t, s] 44 #[.val (.ref s), .val (.ref a), .val (.int (0 : Int32)), .val (.int (Int32.ofNat cs.length)), .val (.null), .val (.ref t)] [.ref t, .ref s] := H12.aload d_sini4_42
  have H14 : Hr x b_sini4 Z EL1 2 12 h1 [t, s] 45 #[.val (.ref s), .val (.ref a), .val (.int (0 : Int32)), .val (.int (Int32.ofNat cs.length)), .val (.null), .val (.ref t)] [.int (Int32.ofNat cs.length), .ref t, .ref s] := H13.iloadN d_sini4_44
  rcases Q1 with ⟨hla, Ft⟩ | ⟨hla, Ft⟩
  · have z123 := True.intro
    obtain ⟨_, h2, _, ⟨rfl, rfl, e2⟩, K2, H124⟩ := H14.callS (argsL := [.ref t, .int (Int32.ofNat cs.length)]) (rest := [.ref s]) (Wr := 1) (ct_cfal hw x.l x.nar x.kn hnar h1 t ((cs.map b8).map Value.int) cs.length (by simp) Ft) sub0 (w51 hw) (w52 hw) (w26 hw) (w53 hw) d_sini4_45 pd_cfal rfl (hf := by first | decide | (simp [b_sini4, Bx.R]; done) | (simp [b_sini4, Bx.R]; omega)) (hl := by first | decide | (simp [b_sini4, Bx.R]; done) | (simp [b_sini4, Bx.R]; omega)) (hc := by first | decide | (simp [b_sini4, Bx.R]; done) | (simp [b_sini4, Bx.R]; omega)) (hs := by first | decide | (simp [b_sini4, Bx.R]; done) | (simp [b_sini4, Bx.R]; omega))
    rw [e2] at H124
    have H124 : Hr x b_sini4 Z EL1 2 12 h1 [t, s] 48 #[.val (.ref s), .val (.ref a), .val (.int (0 : Int32)), .val (.int (Int32.ofNat cs.length)), .val (.null), .val (.ref t)] [.int (0 : Int32), .ref s] := H124
    obtain ⟨h3, W3, H125⟩ := H124.putF (by simp) (w54 hw) (Fc.keep K1 nin0) (Es.keep K1) (Or.inr ⟨(w55 hw), rfl, rfl⟩) (w11 hw) d_sini4_48 (ty := .byte)
    have H125 : Hr x b_sini4 Z EL1 2 12 h3 [t, s] 51 #[.val (.ref s), .val (.ref a), .val (.int (0 : Int32)), .val (.int (Int32.ofNat cs.length)), .val (.null), .val (.ref t)] [] := H125
    have H126 : Hr x b_sini4 Z EL1 2 12 h3 [t, s] 52 #[.val (.ref s), .val (.ref a), .val (.int (0 : Int32)), .val (.int (Int32.ofNat cs.length)), .val (.null), .val (.ref t)] [.ref s] := H125.aloadN d_sini4_51
    have H127 : Hr x b_sini4 Z EL1 2 12 h3 [t, s] 54 #[.val (.ref s), .val (.ref a), .val (.int (0 : Int32)), .val (.int (Int32.ofNat cs.length)), .val (.null), .val (.ref t)] [.ref t, .ref s] := H126.aload d_sini4_52
    obtain ⟨h4, W4, H128⟩ := H127.putF (by simp) (w56 hw) ((Fv.keep K1 nin0).other W3 (Or.inr slne)) ((Es.keep K1).wr W3) (Or.inr ⟨(w57 hw), rfl, rfl⟩) (w11 hw) d_sini4_54 (ty := (.array .byte))
    have H128 : Hr x b_sini4 Z EL1 2 12 h4 [t, s] 57 #[.val (.ref s), .val (.ref a), .val (.int (0 : Int32)), .val (.int (Int32.ofNat cs.length)), .val (.null), .val (.ref t)] [] := H128
    exact H128.finN d_sini4_57 rfl (by decide) (by decide) sub0 ⟨rfl, rfl, t, ((Es.keep K1).wr W3).wr W4, Fld.same W4 ((Fv.keep K1 nin0).other W3 (Or.inr slne)), Or.inl ⟨hla, (Fld.same W3 (Fc.keep K1 nin0)).other W4 (Or.inr (Ne.symm slne)), (Ft.other W3 (Ne.symm hst)).other W4 (Ne.symm hst)⟩⟩
  · have z128 := True.intro
    obtain ⟨_, h2, _, ⟨rfl, rfl, e2⟩, K2, H129⟩ := H14.callS (argsL := [.ref t, .int (Int32.ofNat cs.length)]) (rest := [.ref s]) (Wr := 1) (ct_cfal2 hw x.l x.nar x.kn hnar h1 t (u16 cs) cs.length (u16_len cs) hpos hcap Ft) sub0 (w51 hw) (w52 hw) (w26 hw) (w53 hw) d_sini4_45 pd_cfal rfl (hf := by first | decide | (simp [b_sini4, Bx.R]; done) | (simp [b_sini4, Bx.R]; omega)) (hl := by first | decide | (simp [b_sini4, Bx.R]; done) | (simp [b_sini4, Bx.R]; omega)) (hc := by first | decide | (simp [b_sini4, Bx.R]; done) | (simp [b_sini4, Bx.R]; omega)) (hs := by first | decide | (simp [b_sini4, Bx.R]; done) | (simp [b_sini4, Bx.R]; omega))
    rw [e2] at H129
    have H129 : Hr x b_sini4 Z EL1 2 12 h1 [t, s] 48 #[.val (.ref s), .val (.ref a), .val (.int (0 : Int32)), .val (.int (Int32.ofNat cs.length)), .val (.null), .val (.ref t)] [.int (1 : Int32), .ref s] := H129
    obtain ⟨h3, W3, H130⟩ := H129.putF (by simp) (w54 hw) (Fc.keep K1 nin0) (Es.keep K1) (Or.inr ⟨(w55 hw), rfl, rfl⟩) (w11 hw) d_sini4_48 (ty := .byte)
    have H130 : Hr x b_sini4 Z EL1 2 12 h3 [t, s] 51 #[.val (.ref s), .val (.ref a), .val (.int (0 : Int32)), .val (.int (Int32.ofNat cs.length)), .val (.null), .val (.ref t)] [] := H130
    have H131 : Hr x b_sini4 Z EL1 2 12 h3 [t, s] 52 #[.val (.ref s), .val (.ref a), .val (.int (0 : Int32)), .val (.int (Int32.ofNat cs.length)), .val (.null), .val (.ref t)] [.ref s] := H130.aloadN d_sini4_51
    have H132 : Hr x b_sini4 Z EL1 2 12 h3 [t, s] 54 #[.val (.ref s), .val (.ref a), .val (.int (0 : Int32)), .val (.int (Int32.ofNat cs.length)), .val (.null), .val (.ref t)] [.ref t, .ref s] := H131.aload d_sini4_52
    obtain ⟨h4, W4, H133⟩ := H132.putF (by simp) (w56 hw) ((Fv.keep K1 nin0).other W3 (Or.inr slne)) ((Es.keep K1).wr W3) (Or.inr ⟨(w57 hw), rfl, rfl⟩) (w11 hw) d_sini4_54 (ty := (.array .byte))
    have H133 : Hr x b_sini4 Z EL1 2 12 h4 [t, s] 57 #[.val (.ref s), .val (.ref a), .val (.int (0 : Int32)), .val (.int (Int32.ofNat cs.length)), .val (.null), .val (.ref t)] [] := H133
    exact H133.finN d_sini4_57 rfl (by decide) (by decide) sub0 ⟨rfl, rfl, t, ((Es.keep K1).wr W3).wr W4, Fld.same W4 ((Fv.keep K1 nin0).other W3 (Or.inr slne)), Or.inr ⟨hla, (Fld.same W3 (Fc.keep K1 nin0)).other W4 (Or.inr (Ne.symm slne)), (Ft.other W3 (Ne.symm hst)).other W4 (Ne.symm hst)⟩⟩
def b_sini1 : Bx := (({ frames := 5, cells := 2, slots := 12, locals := 74 } : Room), (⟨"java/lang/String", "<init>", "([C)V"⟩ : MethodName), jdk_42_method_3_code, 2, (Option.none : Option Jvm.ClassFile.FieldType))
theorem ef_sini1 (s a : Addr) (mI : MethodId) : entryFrame mI #[.ref s, .ref a] 2 = mkF mI 0 #[.val (.ref s), .val (.ref a)] [] := by first | (simp [entryFrame, mkF, argsToLocals, Value.category]; done) | rfl
theorem pd_sini1 : parseMethodDescriptor "([C)V" = some ⟨[(.array .char)], none⟩ := by decide +kernel
set_option maxRecDepth 65536 in
set_option maxHeartbeats 4000000 in
theorem ct_sini1 {a0 : Array Value} {Z : State} (hw : ∀ d ∈ tables_1, d.before a0 Z = true) (l : Launch) (nar kn : Bool) (hnr : nar = false) (h0 : Heap) (s a : Addr) (cs : List Int32) (Es : Exa Z h0 s "java/lang/String") (Fc : Fld Z h0 s "java/lang/String" "coder" "B" (.int 0)) (Fv : Fld Z h0 s "java/lang/String" "value" "[B" .null) (Fa : Ar Z h0 a .char (cs.map Value.int)) (hcap : cs.length ≤ 4) (hpos : 0 < cs.length) (hc : CHL cs) (cz : Int32) (O : Sta Z Z.heap "java/lang/String" "COMPACT_STRINGS" "Z" (.int cz)) (hcz : ¬ cz = 0) (Sd : Sta Z Z.heap "java/lang/StringUTF16" "$assertionsDisabled" "Z" (.int 1)) (Sh : Sta Z Z.heap "java/lang/StringUTF16" "HI_BYTE_SHIFT" "I" (.int 0)) (Sl : Sta Z Z.heap "java/lang/StringUTF16" "LO_BYTE_SHIFT" "I" (.int 8)) :
    Ct l Z EL1 (⟨"java/lang/String", "<init>", "([C)V"⟩ : MethodName) jdk_42_method_3_code 2 (Option.none : Option Jvm.ClassFile.FieldType) ({ frames := 5, cells := 2, slots := 12, locals := 74 } : Room) #[.ref s, .ref a] h0 [s] nar kn (fun v h sn => v = none ∧ sn = [] ∧ SS Z h s cs) := by
  refine Ct.intro (plainFor_of_name pn_java_lang_String) (ew hw) (ef_sini1 s a) ?_
  intro x hl hn0 hkn hsf hh H0
  have hnar : x.nar = false := hn0.trans hnr
  have H0 : Hr x b_sini1 Z EL1 0 0 h0 [s] 0 #[.val (.ref s), .val (.ref a)] [] := H0
  have H1 : Hr x b_sini1 Z EL1 0 0 h0 [s] 1 #[.val (.ref s), .val (.ref a)] [.ref s] := H0.aloadN d_sini1_0
  have H2 : Hr x b_sini1 Z EL1 0 0 h0 [s] 2 #[.val (.ref s), .val (.ref a)] [.ref a, .ref s] := H1.aloadN d_sini1_1
  have H3 : Hr x b_sini1 Z EL1 0 0 h0 [s] 3 #[.val (.ref s), .val (.ref a)] [.int (0 : Int32), .ref a, .ref s] := H2.iconst d_sini1_2
  have H4 : Hr x b_sini1 Z EL1 0 0 h0 [s] 4 #[.val (.ref s), .val (.ref a)] [.ref a, .int (0 : Int32), .ref a, .ref s] := H3.aloadN d_sini1_3
  have H5 : Hr x b_sini1 Z EL1 0 0 h0 [s] 5 #[.val (.ref s), .val (.ref a)] [.int (Int32.ofNat cs.length), .int (0 : Int32), .ref a, .ref s] := H4.arraylength Fa d_sini1_4 (hn := (by simp))
  have H6 : Hr x b_sini1 Z EL1 0 0 h0 [s] 6 #[.val (.ref s), .val (.ref a)] [.null, .int (Int32.ofNat cs.length), .int (0 : Int32), .ref a, .ref s] := H5.aconstNull d_sini1_5
  obtain ⟨_, h1, _, ⟨rfl, rfl, Fs⟩, K1, H7⟩ := H6.callI (argsL := [.ref a, .int (0 : Int32), .int (Int32.ofNat cs.length), .null]) (rest := []) (Wr := 0) (a := s) (ct_sini4 hw x.l x.nar x.kn hnar h0 s a cs Es Fc Fv Fa hcap hpos hc cz O hcz Sd Sh Sl) (sub1 (List.mem_singleton.mpr rfl)) (w16 hw) (w17 hw) (w12 hw) (w19 hw) d_sini1_6 pd_sini4 rfl (hf := by first | decide | (simp [b_sini1, Bx.R]; done) | (simp [b_sini1, Bx.R]; omega)) (hl := by first | decide | (simp [b_sini1, Bx.R]; done) | (simp [b_sini1, Bx.R]; omega)) (hc := by first | decide | (simp [b_sini1, Bx.R]; done) | (simp [b_sini1, Bx.R]; omega)) (hs := by first | decide | (simp [b_sini1, Bx.R]; done) | (simp [b_sini1, Bx.R]; omega))
  have H7 : Hr x b_sini1 Z EL1 2 12 h1 [s] 9 #[.val (.ref s), .val (.ref a)] [] := H7
  exact H7.finN d_sini1_9 rfl (by decide) (by decide) sub0 ⟨rfl, rfl, Fs⟩
def b_scod : Bx := (({ frames := 0, cells := 0, slots := 0, locals := 0 } : Room), (⟨"java/lang/String", "coder", "()B"⟩ : MethodName), jdk_42_method_152_code, 1, (Option.some Jvm.ClassFile.FieldType.byte))
theorem ef_scod (a : Addr) (mI : MethodId) : entryFrame mI #[.ref a] 1 = mkF mI 0 #[.val (.ref a)] [] := by first | (simp [entryFrame, mkF, argsToLocals, Value.category]; done) | rfl
theorem pd_scod : parseMethodDescriptor "()B" = some ⟨[], some .byte⟩ := by decide +kernel
set_option maxRecDepth 65536 in
set_option maxHeartbeats 4000000 in
theorem ct_scod {a0 : Array Value} {Z : State} (hw : ∀ d ∈ tables_1, d.before a0 Z = true) (l : Launch) (nar kn : Bool) (hnr : nar = false) (h0 : Heap) (a : Addr) (cs : List Int32) (F : SS Z h0 a cs) (cz : Int32) (O : Sta Z Z.heap "java/lang/String" "COMPACT_STRINGS" "Z" (.int cz)) (hcz : ¬ cz = 0) :
    Ct l Z EL1 (⟨"java/lang/String", "coder", "()B"⟩ : MethodName) jdk_42_method_152_code 1 (Option.some Jvm.ClassFile.FieldType.byte) ({ frames := 0, cells := 0, slots := 0, locals := 0 } : Room) #[.ref a] h0 [] nar kn (fun v h sn => v = some (.int (cdr cs)) ∧ sn = [] ∧ h = h0) := by
  refine Ct.intro (plainFor_of_name pn_java_lang_String) (ew hw) (ef_scod a) ?_
  intro x hl hn0 hkn hsf hh H0
  have hnar : x.nar = false := hn0.trans hnr
  have H0 : Hr x b_scod Z EL1 0 0 h0 [] 0 #[.val (.ref a)] [] := H0
  obtain ⟨t, Ea, Fv, F⟩ := F
  have H1 : Hr x b_scod Z EL1 0 0 h0 [] 3 #[.val (.ref a)] [.int cz] := H0.getS (w23 hw) (O.ext H0.old) d_scod_0
  have H2 : Hr x b_scod Z EL1 0 0 h0 [] 6 #[.val (.ref a)] [] := H1.ifF d_scod_3 (XT.i0_eq_f hcz)
  have H3 : Hr x b_scod Z EL1 0 0 h0 [] 7 #[.val (.ref a)] [.ref a] := H2.aloadN d_scod_6
  rcases F with ⟨hla, Fc, Ft⟩ | ⟨hla, Fc, Ft⟩
  · have z133 := True.intro
    have H134 : Hr x b_scod Z EL1 0 0 h0 [] 10 #[.val (.ref a)] [.int (0 : Int32)] := H3.getF (w54 hw) Fc d_scod_7
    have H135 : Hr x b_scod Z EL1 0 0 h0 [] 14 #[.val (.ref a)] [.int (0 : Int32)] := H134.goto d_scod_10
    exact H135.finZ d_scod_14 (t := .byte) (by first | rfl | decide) ⟨by rw [cdr, if_pos hla], rfl, rfl⟩ sub0
  · have z135 := True.intro
    have H136 : Hr x b_scod Z EL1 0 0 h0 [] 10 #[.val (.ref a)] [.int (1 : Int32)] := H3.getF (w54 hw) Fc d_scod_7
    have H137 : Hr x b_scod Z EL1 0 0 h0 [] 14 #[.val (.ref a)] [.int (1 : Int32)] := H136.goto d_scod_10
    exact H137.finZ d_scod_14 (t := .byte) (by first | rfl | decide) ⟨by rw [cdr, if_neg hla], rfl, rfl⟩ sub0
def b_sil1 : Bx := (({ frames := 0, cells := 0, slots := 0, locals := 0 } : Room), (⟨"java/lang/String", "isLatin1", "()Z"⟩ : MethodName), jdk_42_method_154_code, 1, (Option.some Jvm.ClassFile.FieldType.boolean))
theorem ef_sil1 (a : Addr) (mI : MethodId) : entryFrame mI #[.ref a] 1 = mkF mI 0 #[.val (.ref a)] [] := by first | (simp [entryFrame, mkF, argsToLocals, Value.category]; done) | rfl
theorem pd_sil1 : parseMethodDescriptor "()Z" = some ⟨[], some .boolean⟩ := by decide +kernel
set_option maxRecDepth 65536 in
set_option maxHeartbeats 4000000 in
theorem ct_sil1 {a0 : Array Value} {Z : State} (hw : ∀ d ∈ tables_1, d.before a0 Z = true) (l : Launch) (nar kn : Bool) (hnr : nar = false) (h0 : Heap) (a : Addr) (cs : List Int32) (F : SS Z h0 a cs) (cz : Int32) (O : Sta Z Z.heap "java/lang/String" "COMPACT_STRINGS" "Z" (.int cz)) (hcz : ¬ cz = 0) :
    Ct l Z EL1 (⟨"java/lang/String", "isLatin1", "()Z"⟩ : MethodName) jdk_42_method_154_code 1 (Option.some Jvm.ClassFile.FieldType.boolean) ({ frames := 0, cells := 0, slots := 0, locals := 0 } : Room) #[.ref a] h0 [] nar kn (fun v h sn => v = some (.int (if Lat cs then 1 else 0)) ∧ sn = [] ∧ h = h0) := by
  refine Ct.intro (plainFor_of_name pn_java_lang_String) (ew hw) (ef_sil1 a) ?_
  intro x hl hn0 hkn hsf hh H0
  have hnar : x.nar = false := hn0.trans hnr
  have H0 : Hr x b_sil1 Z EL1 0 0 h0 [] 0 #[.val (.ref a)] [] := H0
  obtain ⟨t, Ea, Fv, F⟩ := F
  have H1 : Hr x b_sil1 Z EL1 0 0 h0 [] 3 #[.val (.ref a)] [.int cz] := H0.getS (w23 hw) (O.ext H0.old) d_sil1_0
  have H2 : Hr x b_sil1 Z EL1 0 0 h0 [] 6 #[.val (.ref a)] [] := H1.ifF d_sil1_3 (XT.i0_eq_f hcz)
  have H3 : Hr x b_sil1 Z EL1 0 0 h0 [] 7 #[.val (.ref a)] [.ref a] := H2.aloadN d_sil1_6
  rcases F with ⟨hla, Fc, Ft⟩ | ⟨hla, Fc, Ft⟩
  · have z137 := True.intro
    have H138 : Hr x b_sil1 Z EL1 0 0 h0 [] 10 #[.val (.ref a)] [.int (0 : Int32)] := H3.getF (w54 hw) Fc d_sil1_7
    have H139 : Hr x b_sil1 Z EL1 0 0 h0 [] 13 #[.val (.ref a)] [] := H138.ifF d_sil1_10 (XT.i0_ne_f rfl)
    have H140 : Hr x b_sil1 Z EL1 0 0 h0 [] 14 #[.val (.ref a)] [.int (1 : Int32)] := H139.iconst d_sil1_13
    have H141 : Hr x b_sil1 Z EL1 0 0 h0 [] 18 #[.val (.ref a)] [.int (1 : Int32)] := H140.goto d_sil1_14
    exact H141.finZ d_sil1_18 (t := .boolean) (by first | rfl | decide) ⟨by rw [if_pos hla], rfl, rfl⟩ sub0
  · have z141 := True.intro
    have H142 : Hr x b_sil1 Z EL1 0 0 h0 [] 10 #[.val (.ref a)] [.int (1 : Int32)] := H3.getF (w54 hw) Fc d_sil1_7
    have H143 : Hr x b_sil1 Z EL1 0 0 h0 [] 17 #[.val (.ref a)] [] := H142.ifT d_sil1_10 (XT.i0_ne_t (by decide))
    have H144 : Hr x b_sil1 Z EL1 0 0 h0 [] 18 #[.val (.ref a)] [.int (0 : Int32)] := H143.iconst d_sil1_17
    exact H144.finZ d_sil1_18 (t := .boolean) (by first | rfl | decide) ⟨by rw [if_neg hla], rfl, rfl⟩ sub0
def b_slen : Bx := (({ frames := 1, cells := 0, slots := 0, locals := 13 } : Room), (⟨"java/lang/String", "length", "()I"⟩ : MethodName), jdk_42_method_54_code, 1, (Option.some Jvm.ClassFile.FieldType.int))
theorem ef_slen (a : Addr) (mI : MethodId) : entryFrame mI #[.ref a] 1 = mkF mI 0 #[.val (.ref a)] [] := by first | (simp [entryFrame, mkF, argsToLocals, Value.category]; done) | rfl
theorem pd_slen : parseMethodDescriptor "()I" = some ⟨[], some .int⟩ := by decide +kernel
set_option maxRecDepth 65536 in
set_option maxHeartbeats 4000000 in
theorem ct_slen {a0 : Array Value} {Z : State} (hw : ∀ d ∈ tables_1, d.before a0 Z = true) (l : Launch) (nar kn : Bool) (hnr : nar = false) (h0 : Heap) (a : Addr) (cs : List Int32) (F : SS Z h0 a cs) (cz : Int32) (O : Sta Z Z.heap "java/lang/String" "COMPACT_STRINGS" "Z" (.int cz)) (hcz : ¬ cz = 0) (hcap : cs.length ≤ 4) :
    Ct l Z EL1 (⟨"java/lang/String", "length", "()I"⟩ : MethodName) jdk_42_method_54_code 1 (Option.some Jvm.ClassFile.FieldType.int) ({ frames := 1, cells := 0, slots := 0, locals := 13 } : Room) #[.ref a] h0 [] nar kn (fun v h sn => v = some (.int (Int32.ofNat cs.length)) ∧ sn = [] ∧ h = h0) := by
  refine Ct.intro (plainFor_of_name pn_java_lang_String) (ew hw) (ef_slen a) ?_
  intro x hl hn0 hkn hsf hh H0
  have hnar : x.nar = false := hn0.trans hnr
  have H0 : Hr x b_slen Z EL1 0 0 h0 [] 0 #[.val (.ref a)] [] := H0
  have F2 := F
  obtain ⟨t, Ea, Fv, F2⟩ := F2
  rcases F2 with ⟨hla, Fc, Ft⟩ | ⟨hla, Fc, Ft⟩
  · have z144 := True.intro
    have H145 : Hr x b_slen Z EL1 0 0 h0 [] 1 #[.val (.ref a)] [.ref a] := H0.aloadN d_slen_0
    have H146 : Hr x b_slen Z EL1 0 0 h0 [] 4 #[.val (.ref a)] [.ref t] := H145.getF (w56 hw) Fv d_slen_1
    have H147 : Hr x b_slen Z EL1 0 0 h0 [] 5 #[.val (.ref a)] [.int (Int32.ofNat cs.length)] := H146.arraylength Ft d_slen_4 (hn := (by simp))
    have H148 : Hr x b_slen Z EL1 0 0 h0 [] 6 #[.val (.ref a)] [.ref a, .int (Int32.ofNat cs.length)] := H147.aloadN d_slen_5
    obtain ⟨_, h1, _, ⟨rfl, rfl, e1⟩, K1, H149⟩ := H148.callV (argsL := []) (rest := [.int (Int32.ofNat cs.length)]) (Wr := 1) (a := a) (ct_scod hw x.l x.nar x.kn hnar h0 a cs F cz O hcz) sub0 Ea (w74 hw) (w75 hw) (w77 hw) (w77 hw) (w76 hw) (w12 hw) (w78 hw) d_slen_6 pd_scod rfl (hf := by first | decide | (simp [b_slen, Bx.R]; done) | (simp [b_slen, Bx.R]; omega)) (hl := by first | decide | (simp [b_slen, Bx.R]; done) | (simp [b_slen, Bx.R]; omega)) (hc := by first | decide | (simp [b_slen, Bx.R]; done) | (simp [b_slen, Bx.R]; omega)) (hs := by first | decide | (simp [b_slen, Bx.R]; done) | (simp [b_slen, Bx.R]; omega))
    rw [e1] at H149
    have H149 : Hr x b_slen Z EL1 0 0 h0 [] 9 #[.val (.ref a)] [.int (cdr cs), .int (Int32.ofNat cs.length)] := H149
    have H150 : Hr x b_slen Z EL1 0 0 h0 [] 10 #[.val (.ref a)] [.int (Int32.ofNat cs.length)] := H149.ishr d_slen_9 (hv := (by rw [cdr, if_pos hla]; exact shr0 _))
    exact H150.finI d_slen_10 ⟨rfl, rfl, rfl⟩ sub0
  · have z150 := True.intro
    have H151 : Hr x b_slen Z EL1 0 0 h0 [] 1 #[.val (.ref a)] [.ref a] := H0.aloadN d_slen_0
    have H152 : Hr x b_slen Z EL1 0 0 h0 [] 4 #[.val (.ref a)] [.ref t] := H151.getF (w56 hw) Fv d_slen_1
    have H153 : Hr x b_slen Z EL1 0 0 h0 [] 5 #[.val (.ref a)] [.int (Int32.ofNat (2 * cs.length))] := H152.arraylength Ft d_slen_4 (hn := (by rw [u16_len]))
    have H154 : Hr x b_slen Z EL1 0 0 h0 [] 6 #[.val (.ref a)] [.ref a, .int (Int32.ofNat (2 * cs.length))] := H153.aloadN d_slen_5
    obtain ⟨_, h1, _, ⟨rfl, rfl, e1⟩, K1, H155⟩ := H154.callV (argsL := []) (rest := [.int (Int32.ofNat (2 * cs.length))]) (Wr := 1) (a := a) (ct_scod hw x.l x.nar x.kn hnar h0 a cs F cz O hcz) sub0 Ea (w74 hw) (w75 hw) (w77 hw) (w77 hw) (w76 hw) (w12 hw) (w78 hw) d_slen_6 pd_scod rfl (hf := by first | decide | (simp [b_slen, Bx.R]; done) | (simp [b_slen, Bx.R]; omega)) (hl := by first | decide | (simp [b_slen, Bx.R]; done) | (simp [b_slen, Bx.R]; omega)) (hc := by first | decide | (simp [b_slen, Bx.R]; done) | (simp [b_slen, Bx.R]; omega)) (hs := by first | decide | (simp [b_slen, Bx.R]; done) | (simp [b_slen, Bx.R]; omega))
    rw [e1] at H155
    have H155 : Hr x b_slen Z EL1 0 0 h0 [] 9 #[.val (.ref a)] [.int (cdr cs), .int (Int32.ofNat (2 * cs.length))] := H155
    have H156 : Hr x b_slen Z EL1 0 0 h0 [] 10 #[.val (.ref a)] [.int (Int32.ofNat cs.length)] := H155.ishr d_slen_9 (hv := (by rw [cdr, if_neg hla]; exact shr1 (by omega)))
    exact H156.finI d_slen_10 ⟨rfl, rfl, rfl⟩ sub0
def b_pcft : Bx := (({ frames := 0, cells := 0, slots := 0, locals := 0 } : Room), (⟨"jdk/internal/util/Preconditions", "checkFromToIndex", "(IIILjava/util/function/BiFunction;)I"⟩ : MethodName), jdk_41_method_12_code, 4, (Option.some Jvm.ClassFile.FieldType.int))
theorem ef_pcft (n : Nat) (f : Value) (hf : f.category = 1) (mI : MethodId) : entryFrame mI #[.int (0 : Int32), .int (Int32.ofNat n), .int (Int32.ofNat n), f] 4 = mkF mI 0 #[.val (.int (0 : Int32)), .val (.int (Int32.ofNat n)), .val (.int (Int32.ofNat n)), .val (f)] [] := by first | rfl | (simp [entryFrame, mkF, argsToLocals, Value.category, hf]; done) | (simp [entryFrame, mkF, argsToLocals, hf]; rfl)
theorem pn_jdk_internal_util_Preconditions : plainName "jdk/internal/util/Preconditions" = true := by first | (simp [plainName, overriddenIn]; done) | decide +kernel
theorem pd_pcft : parseMethodDescriptor "(IIILjava/util/function/BiFunction;)I" = some ⟨[.int, .int, .int, (.object "java/util/function/BiFunction")], some .int⟩ := by decide +kernel
set_option maxRecDepth 65536 in
set_option maxHeartbeats 4000000 in
theorem ct_pcft {a0 : Array Value} {Z : State} (hw : ∀ d ∈ tables_1, d.before a0 Z = true) (l : Launch) (nar kn : Bool) (hnr : nar = false) (h0 : Heap) (n : Nat) (hn : n < 2147483648) (f : Value) (hf : f.category = 1) :
    Ct l Z EL1 (⟨"jdk/internal/util/Preconditions", "checkFromToIndex", "(IIILjava/util/function/BiFunction;)I"⟩ : MethodName) jdk_41_method_12_code 4 (Option.some Jvm.ClassFile.FieldType.int) ({ frames := 0, cells := 0, slots := 0, locals := 0 } : Room) #[.int (0 : Int32), .int (Int32.ofNat n), .int (Int32.ofNat n), f] h0 [] nar kn (fun v h sn => v = some (.int 0) ∧ sn = [] ∧ h = h0) := by
  refine Ct.intro (plainFor_of_name pn_jdk_internal_util_Preconditions) (ew hw) (ef_pcft n f hf) ?_
  intro x hl hn0 hkn hsf hh H0
  have hnar : x.nar = false := hn0.trans hnr
  have H0 : Hr x b_pcft Z EL1 0 0 h0 [] 0 #[.val (.int (0 : Int32)), .val (.int (Int32.ofNat n)), .val (.int (Int32.ofNat n)), .val (f)] [] := H0
  have H1 : Hr x b_pcft Z EL1 0 0 h0 [] 1 #[.val (.int (0 : Int32)), .val (.int (Int32.ofNat n)), .val (.int (Int32.ofNat n)), .val (f)] [.int (0 : Int32)] := H0.iloadN d_pcft_0
  have H2 : Hr x b_pcft Z EL1 0 0 h0 [] 4 #[.val (.int (0 : Int32)), .val (.int (Int32.ofNat n)), .val (.int (Int32.ofNat n)), .val (f)] [] := H1.ifF d_pcft_1 (XT.i0_lt_f (by decide))
  have H3 : Hr x b_pcft Z EL1 0 0 h0 [] 5 #[.val (.int (0 : Int32)), .val (.int (Int32.ofNat n)), .val (.int (Int32.ofNat n)), .val (f)] [.int (0 : Int32)] := H2.iloadN d_pcft_4
  have H4 : Hr x b_pcft Z EL1 0 0 h0 [] 6 #[.val (.int (0 : Int32)), .val (.int (Int32.ofNat n)), .val (.int (Int32.ofNat n)), .val (f)] [.int (Int32.ofNat n), .int (0 : Int32)] := H3.iloadN d_pcft_5
  have H5 : Hr x b_pcft Z EL1 0 0 h0 [] 9 #[.val (.int (0 : Int32)), .val (.int (Int32.ofNat n)), .val (.int (Int32.ofNat n)), .val (f)] [] := H4.icmpF d_pcft_6 (XT.ii_gt_f (nn32 hn))
  have H6 : Hr x b_pcft Z EL1 0 0 h0 [] 10 #[.val (.int (0 : Int32)), .val (.int (Int32.ofNat n)), .val (.int (Int32.ofNat n)), .val (f)] [.int (Int32.ofNat n)] := H5.iloadN d_pcft_9
  have H7 : Hr x b_pcft Z EL1 0 0 h0 [] 11 #[.val (.int (0 : Int32)), .val (.int (Int32.ofNat n)), .val (.int (Int32.ofNat n)), .val (f)] [.int (Int32.ofNat n), .int (Int32.ofNat n)] := H6.iloadN d_pcft_10
  have H8 : Hr x b_pcft Z EL1 0 0 h0 [] 22 #[.val (.int (0 : Int32)), .val (.int (Int32.ofNat n)), .val (.int (Int32.ofNat n)), .val (f)] [] := H7.icmpT d_pcft_11 (XT.ii_le_t (by simp))
  have H9 : Hr x b_pcft Z EL1 0 0 h0 [] 23 #[.val (.int (0 : Int32)), .val (.int (Int32.ofNat n)), .val (.int (Int32.ofNat n)), .val (f)] [.int (0 : Int32)] := H8.iloadN d_pcft_22
  exact H9.finI d_pcft_23 ⟨rfl, rfl, rfl⟩ sub0
def b_ocft : Bx := (({ frames := 1, cells := 0, slots := 0, locals := 15 } : Room), (⟨"java/util/Objects", "checkFromToIndex", "(III)I"⟩ : MethodName), jdk_31_method_18_code, 3, (Option.some Jvm.ClassFile.FieldType.int))
theorem ef_ocft (n : Nat) (mI : MethodId) : entryFrame mI #[.int (0 : Int32), .int (Int32.ofNat n), .int (Int32.ofNat n)] 3 = mkF mI 0 #[.val (.int (0 : Int32)), .val (.int (Int32.ofNat n)), .val (.int (Int32.ofNat n))] [] := by first | (simp [entryFrame, mkF, argsToLocals, Value.category]; done) | rfl
theorem pn_java_util_Objects : plainName "java/util/Objects" = true := by first | (simp [plainName, overriddenIn]; done) | decide +kernel
theorem pd_ocft : parseMethodDescriptor "(III)I" = some ⟨[.int, .int, .int], some .int⟩ := by decide +kernel
set_option maxRecDepth 65536 in
set_option maxHeartbeats 4000000 in
theorem ct_ocft {a0 : Array Value} {Z : State} (hw : ∀ d ∈ tables_1, d.before a0 Z = true) (l : Launch) (nar kn : Bool) (hnr : nar = false) (h0 : Heap) (n : Nat) (hn : n < 2147483648) :
    Ct l Z EL1 (⟨"java/util/Objects", "checkFromToIndex", "(III)I"⟩ : MethodName) jdk_31_method_18_code 3 (Option.some Jvm.ClassFile.FieldType.int) ({ frames := 1, cells := 0, slots := 0, locals := 15 } : Room) #[.int (0 : Int32), .int (Int32.ofNat n), .int (Int32.ofNat n)] h0 [] nar kn (fun v h sn => v = some (.int 0) ∧ sn = [] ∧ h = h0) := by
  refine Ct.intro (plainFor_of_name pn_java_util_Objects) (ew hw) (ef_ocft n) ?_
  intro x hl hn0 hkn hsf hh H0
  have hnar : x.nar = false := hn0.trans hnr
  have H0 : Hr x b_ocft Z EL1 0 0 h0 [] 0 #[.val (.int (0 : Int32)), .val (.int (Int32.ofNat n)), .val (.int (Int32.ofNat n))] [] := H0
  have H1 : Hr x b_ocft Z EL1 0 0 h0 [] 1 #[.val (.int (0 : Int32)), .val (.int (Int32.ofNat n)), .val (.int (Int32.ofNat n))] [.int (0 : Int32)] := H0.iloadN d_ocft_0
  have H2 : Hr x b_ocft Z EL1 0 0 h0 [] 2 #[.val (.int (0 : Int32)), .val (.int (Int32.ofNat n)), .val (.int (Int32.ofNat n))] [.int (Int32.ofNat n), .int (0 : Int32)] := H1.iloadN d_ocft_1
  have H3 : Hr x b_ocft Z EL1 0 0 h0 [] 3 #[.val (.int (0 : Int32)), .val (.int (Int32.ofNat n)), .val (.int (Int32.ofNat n))] [.int (Int32.ofNat n), .int (Int32.ofNat n), .int (0 : Int32)] := H2.iloadN d_ocft_2
  have H4 : Hr x b_ocft Z EL1 0 0 h0 [] 4 #[.val (.int (0 : Int32)), .val (.int (Int32.ofNat n)), .val (.int (Int32.ofNat n))] [.null, .int (Int32.ofNat n), .int (Int32.ofNat n), .int (0 : Int32)] := H3.aconstNull d_ocft_3
  obtain ⟨_, h1, _, ⟨rfl, rfl, e1⟩, K1, H5⟩ := H4.callS (argsL := [.int (0 : Int32), .int (Int32.ofNat n), .int (Int32.ofNat n), .null]) (rest := []) (Wr := 0) (ct_pcft hw x.l x.nar x.kn hnar h0 n hn .null rfl) sub0 (w88 hw) (w89 hw) (w90 hw) (w91 hw) d_ocft_4 pd_pcft rfl (hf := by first | decide | (simp [b_ocft, Bx.R]; done) | (simp [b_ocft, Bx.R]; omega)) (hl := by first | decide | (simp [b_ocft, Bx.R]; done) | (simp [b_ocft, Bx.R]; omega)) (hc := by first | decide | (simp [b_ocft, Bx.R]; done) | (simp [b_ocft, Bx.R]; omega)) (hs := by first | decide | (simp [b_ocft, Bx.R]; done) | (simp [b_ocft, Bx.R]; omega))
  rw [e1] at H5
  have H5 : Hr x b_ocft Z EL1 0 0 h0 [] 7 #[.val (.int (0 : Int32)), .val (.int (Int32.ofNat n)), .val (.int (Int32.ofNat n))] [.int (0 : Int32)] := H5
  exact H5.finI d_ocft_7 ⟨rfl, rfl, rfl⟩ sub0
def b_sbbe : Bx := (({ frames := 1, cells := 0, slots := 0, locals := 15 } : Room), (⟨"java/lang/String", "checkBoundsBeginEnd", "(III)V"⟩ : MethodName), jdk_42_method_158_code, 3, (Option.none : Option Jvm.ClassFile.FieldType))
theorem ef_sbbe (n : Nat) (mI : MethodId) : entryFrame mI #[.int (0 : Int32), .int (Int32.ofNat n), .int (Int32.ofNat n)] 3 = mkF mI 0 #[.val (.int (0 : Int32)), .val (.int (Int32.ofNat n)), .val (.int (Int32.ofNat n))] [] := by first | (simp [entryFrame, mkF, argsToLocals, Value.category]; done) | rfl
theorem pd_sbbe : parseMethodDescriptor "(III)V" = some ⟨[.int, .int, .int], none⟩ := by decide +kernel
set_option maxRecDepth 65536 in
set_option maxHeartbeats 4000000 in
theorem ct_sbbe {a0 : Array Value} {Z : State} (hw : ∀ d ∈ tables_1, d.before a0 Z = true) (l : Launch) (nar kn : Bool) (hnr : nar = false) (h0 : Heap) (n : Nat) (hn : n < 2147483648) (f : Value) (hfr : f.isRef = true) (P : Sta Z Z.heap "jdk/internal/util/Preconditions" "SIOOBE_FORMATTER" "Ljava/util/function/BiFunction;" f) :
    Ct l Z EL1 (⟨"java/lang/String", "checkBoundsBeginEnd", "(III)V"⟩ : MethodName) jdk_42_method_158_code 3 (Option.none : Option Jvm.ClassFile.FieldType) ({ frames := 1, cells := 0, slots := 0, locals := 15 } : Room) #[.int (0 : Int32), .int (Int32.ofNat n), .int (Int32.ofNat n)] h0 [] nar kn (fun v h sn => v = none ∧ sn = [] ∧ h = h0) := by
  refine Ct.intro (plainFor_of_name pn_java_lang_String) (ew hw) (ef_sbbe n) ?_
  intro x hl hn0 hkn hsf hh H0
  have hnar : x.nar = false := hn0.trans hnr
  have H0 : Hr x b_sbbe Z EL1 0 0 h0 [] 0 #[.val (.int (0 : Int32)), .val (.int (Int32.ofNat n)), .val (.int (Int32.ofNat n))] [] := H0
  have hfc : f.category = 1 := by rcases ref_cases hfr with rfl | ⟨a, rfl⟩ <;> rfl
  have H1 : Hr x b_sbbe Z EL1 0 0 h0 [] 1 #[.val (.int (0 : Int32)), .val (.int (Int32.ofNat n)), .val (.int (Int32.ofNat n))] [.int (0 : Int32)] := H0.iloadN d_sbbe_0
  have H2 : Hr x b_sbbe Z EL1 0 0 h0 [] 2 #[.val (.int (0 : Int32)), .val (.int (Int32.ofNat n)), .val (.int (Int32.ofNat n))] [.int (Int32.ofNat n), .int (0 : Int32)] := H1.iloadN d_sbbe_1
  have H3 : Hr x b_sbbe Z EL1 0 0 h0 [] 3 #[.val (.int (0 : Int32)), .val (.int (Int32.ofNat n)), .val (.int (Int32.ofNat n))] [.int (Int32.ofNat n), .int (Int32.ofNat n), .int (0 : Int32)] := H2.iloadN d_sbbe_2
  have H4 : Hr x b_sbbe Z EL1 0 0 h0 [] 6 #[.val (.int (0 : Int32)), .val (.int (Int32.ofNat n)), .val (.int (Int32.ofNat n))] [f, .int (Int32.ofNat n), .int (Int32.ofNat n), .int (0 : Int32)] := H3.getS (w133 hw) (P.ext H3.old) d_sbbe_3
  obtain ⟨_, h1, _, ⟨rfl, rfl, e1⟩, K1, H5⟩ := H4.callS (argsL := [.int (0 : Int32), .int (Int32.ofNat n), .int (Int32.ofNat n), f]) (rest := []) (Wr := 0) (ct_pcft hw x.l x.nar x.kn hnar h0 n hn f hfc) sub0 (w134 hw) (w89 hw) (w90 hw) (w91 hw) d_sbbe_6 pd_pcft rfl (hf := by first | decide | (simp [b_sbbe, Bx.R]; done) | (simp [b_sbbe, Bx.R]; omega)) (hl := by first | decide | (simp [b_sbbe, Bx.R]; done) | (simp [b_sbbe, Bx.R]; omega)) (hc := by first | decide | (simp [b_sbbe, Bx.R]; done) | (simp [b_sbbe, Bx.R]; omega)) (hs := by first | decide | (simp [b_sbbe, Bx.R]; done) | (simp [b_sbbe, Bx.R]; omega))
  rw [e1] at H5
  have H5 : Hr x b_sbbe Z EL1 0 0 h0 [] 9 #[.val (.int (0 : Int32)), .val (.int (Int32.ofNat n)), .val (.int (Int32.ofNat n))] [.int (0 : Int32)] := H5
  have H6 : Hr x b_sbbe Z EL1 0 0 h0 [] 10 #[.val (.int (0 : Int32)), .val (.int (Int32.ofNat n)), .val (.int (Int32.ofNat n))] [] := H5.pop d_sbbe_9
  exact H6.finN d_sbbe_10 rfl (by decide) (by decide) sub0 ⟨rfl, rfl, rfl⟩
def b_ulen : Bx := (({ frames := 0, cells := 0, slots := 0, locals := 0 } : Room), (⟨"java/lang/StringUTF16", "length", "([B)I"⟩ : MethodName), jdk_52_method_6_code, 1, (Option.some Jvm.ClassFile.FieldType.int))
theorem ef_ulen (t : Addr) (mI : MethodId) : entryFrame mI #[.ref t] 1 = mkF mI 0 #[.val (.ref t)] [] := by first | (simp [entryFrame, mkF, argsToLocals, Value.category]; done) | rfl
theorem pd_ulen : parseMethodDescriptor "([B)I" = some ⟨[(.array .byte)], some .int⟩ := by decide +kernel
set_option maxRecDepth 65536 in
set_option maxHeartbeats 4000000 in
theorem ct_ulen {a0 : Array Value} {Z : State} (hw : ∀ d ∈ tables_1, d.before a0 Z = true) (l : Launch) (nar kn : Bool) (hnr : nar = false) (h0 : Heap) (t : Addr) (cs : List Int32) (Ft : Ar Z h0 t .byte (u16 cs)) (hcap : cs.length ≤ 4) :
    Ct l Z EL1 (⟨"java/lang/StringUTF16", "length", "([B)I"⟩ : MethodName) jdk_52_method_6_code 1 (Option.some Jvm.ClassFile.FieldType.int) ({ frames := 0, cells := 0, slots := 0, locals := 0 } : Room) #[.ref t] h0 [] nar kn (fun v h sn => v = some (.int (Int32.ofNat cs.length)) ∧ sn = [] ∧ h = h0) := by
  refine Ct.intro (plainFor_of_name pn_java_lang_StringUTF16) (ew hw) (ef_ulen t) ?_
  intro x hl hn0 hkn hsf hh H0
  have hnar : x.nar = false := hn0.trans hnr
  have H0 : Hr x b_ulen Z EL1 0 0 h0 [] 0 #[.val (.ref t)] [] := H0
  have H1 : Hr x b_ulen Z EL1 0 0 h0 [] 1 #[.val (.ref t)] [.ref t] := H0.aloadN d_ulen_0
  have H2 : Hr x b_ulen Z EL1 0 0 h0 [] 2 #[.val (.ref t)] [.int (Int32.ofNat (2 * cs.length))] := H1.arraylength Ft d_ulen_1 (hn := (by rw [u16_len]))
  have H3 : Hr x b_ulen Z EL1 0 0 h0 [] 3 #[.val (.ref t)] [.int (1 : Int32), .int (Int32.ofNat (2 * cs.length))] := H2.iconst d_ulen_2
  have H4 : Hr x b_ulen Z EL1 0 0 h0 [] 4 #[.val (.ref t)] [.int (Int32.ofNat cs.length)] := H3.ishr d_ulen_3 (hv := (shr1 (by omega)))
  exact H4.finI d_ulen_4 ⟨rfl, rfl, rfl⟩ sub0
def b_ubbe : Bx := (({ frames := 2, cells := 0, slots := 0, locals := 29 } : Room), (⟨"java/lang/StringUTF16", "checkBoundsBeginEnd", "(II[B)V"⟩ : MethodName), jdk_52_method_93_code, 3, (Option.none : Option Jvm.ClassFile.FieldType))
theorem ef_ubbe (cs : List Int32) (t : Addr) (mI : MethodId) : entryFrame mI #[.int (0 : Int32), .int (Int32.ofNat cs.length), .ref t] 3 = mkF mI 0 #[.val (.int (0 : Int32)), .val (.int (Int32.ofNat cs.length)), .val (.ref t)] [] := by first | (simp [entryFrame, mkF, argsToLocals, Value.category]; done) | rfl
theorem pd_ubbe : parseMethodDescriptor "(II[B)V" = some ⟨[.int, .int, (.array .byte)], none⟩ := by decide +kernel
set_option maxRecDepth 65536 in
set_option maxHeartbeats 4000000 in
theorem ct_ubbe {a0 : Array Value} {Z : State} (hw : ∀ d ∈ tables_1, d.before a0 Z = true) (l : Launch) (nar kn : Bool) (hnr : nar = false) (h0 : Heap) (t : Addr) (cs : List Int32) (Ft : Ar Z h0 t .byte (u16 cs)) (hcap : cs.length ≤ 4) (f : Value) (hfr : f.isRef = true) (P : Sta Z Z.heap "jdk/internal/util/Preconditions" "SIOOBE_FORMATTER" "Ljava/util/function/BiFunction;" f) :
    Ct l Z EL1 (⟨"java/lang/StringUTF16", "checkBoundsBeginEnd", "(II[B)V"⟩ : MethodName) jdk_52_method_93_code 3 (Option.none : Option Jvm.ClassFile.FieldType) ({ frames := 2, cells := 0, slots := 0, locals := 29 } : Room) #[.int (0 : Int32), .int (Int32.ofNat cs.length), .ref t] h0 [] nar kn (fun v h sn => v = none ∧ sn = [] ∧ h = h0) := by
  refine Ct.intro (plainFor_of_name pn_java_lang_StringUTF16) (ew hw) (ef_ubbe cs t) ?_
  intro x hl hn0 hkn hsf hh H0
  have hnar : x.nar = false := hn0.trans hnr
  have H0 : Hr x b_ubbe Z EL1 0 0 h0 [] 0 #[.val (.int (0 : Int32)), .val (.int (Int32.ofNat cs.length)), .val (.ref t)] [] := H0
  have H1 : Hr x b_ubbe Z EL1 0 0 h0 [] 1 #[.val (.int (0 : Int32)), .val (.int (Int32.ofNat cs.length)), .val (.ref t)] [.int (0 : Int32)] := H0.iloadN d_ubbe_0
  have H2 : Hr x b_ubbe Z EL1 0 0 h0 [] 2 #[.val (.int (0 : Int32)), .val (.int (Int32.ofNat cs.length)), .val (.ref t)] [.int (Int32.ofNat cs.length), .int (0 : Int32)] := H1.iloadN d_ubbe_1
  have H3 : Hr x b_ubbe Z EL1 0 0 h0 [] 3 #[.val (.int (0 : Int32)), .val (.int (Int32.ofNat cs.length)), .val (.ref t)] [.ref t, .int (Int32.ofNat cs.length), .int (0 : Int32)] := H2.aloadN d_ubbe_2
  obtain ⟨_, h1, _, ⟨rfl, rfl, e1⟩, K1, H4⟩ := H3.callS (argsL := [.ref t]) (rest := [.int (Int32.ofNat cs.length), .int (0 : Int32)]) (Wr := 2) (ct_ulen hw x.l x.nar x.kn hnar h0 t cs Ft hcap) sub0 (w127 hw) (w128 hw) (w26 hw) (w129 hw) d_ubbe_3 pd_ulen rfl (hf := by first | decide | (simp [b_ubbe, Bx.R]; done) | (simp [b_ubbe, Bx.R]; omega)) (hl := by first | decide | (simp [b_ubbe, Bx.R]; done) | (simp [b_ubbe, Bx.R]; omega)) (hc := by first | decide | (simp [b_ubbe, Bx.R]; done) | (simp [b_ubbe, Bx.R]; omega)) (hs := by first | decide | (simp [b_ubbe, Bx.R]; done) | (simp [b_ubbe, Bx.R]; omega))
  rw [e1] at H4
  have H4 : Hr x b_ubbe Z EL1 0 0 h0 [] 6 #[.val (.int (0 : Int32)), .val (.int (Int32.ofNat cs.length)), .val (.ref t)] [.int (Int32.ofNat cs.length), .int (Int32.ofNat cs.length), .int (0 : Int32)] := H4
  obtain ⟨_, h2, _, ⟨rfl, rfl, e2⟩, K2, H5⟩ := H4.callS (argsL := [.int (0 : Int32), .int (Int32.ofNat cs.length), .int (Int32.ofNat cs.length)]) (rest := []) (Wr := 0) (ct_sbbe hw x.l x.nar x.kn hnar h0 cs.length (by omega) f hfr P) sub0 (w130 hw) (w131 hw) (w12 hw) (w132 hw) d_ubbe_6 pd_sbbe rfl (hf := by first | decide | (simp [b_ubbe, Bx.R]; done) | (simp [b_ubbe, Bx.R]; omega)) (hl := by first | decide | (simp [b_ubbe, Bx.R]; done) | (simp [b_ubbe, Bx.R]; omega)) (hc := by first | decide | (simp [b_ubbe, Bx.R]; done) | (simp [b_ubbe, Bx.R]; omega)) (hs := by first | decide | (simp [b_ubbe, Bx.R]; done) | (simp [b_ubbe, Bx.R]; omega))
  rw [e2] at H5
  have H5 : Hr x b_ubbe Z EL1 0 0 h0 [] 9 #[.val (.int (0 : Int32)), .val (.int (Int32.ofNat cs.length)), .val (.ref t)] [] := H5
  exact H5.finN d_ubbe_9 rfl (by decide) (by decide) sub0 ⟨rfl, rfl, rfl⟩
def b_cpc4 : Bx := (({ frames := 1, cells := 0, slots := 0, locals := 13 } : Room), (⟨"java/lang/StringUTF16", "codePointCount", "([BIIZ)I"⟩ : MethodName), jdk_52_method_11_code, 6, (Option.some Jvm.ClassFile.FieldType.int))
theorem ef_cpc4 (t : Addr) (cs : List Int32) (mI : MethodId) : entryFrame mI #[.ref t, .int (0 : Int32), .int (Int32.ofNat cs.length), .int (0 : Int32)] 6 = mkF mI 0 #[.val (.ref t), .val (.int (0 : Int32)), .val (.int (Int32.ofNat cs.length)), .val (.int (0 : Int32)), .unset, .unset] [] := by first | (simp [entryFrame, mkF, argsToLocals, Value.category]; done) | rfl
theorem pd_cpc4 : parseMethodDescriptor "([BIIZ)I" = some ⟨[(.array .byte), .int, .int, .boolean], some .int⟩ := by decide +kernel
set_option maxRecDepth 65536 in
set_option maxHeartbeats 4000000 in
theorem ct_cpc4 {a0 : Array Value} {Z : State} (hw : ∀ d ∈ tables_1, d.before a0 Z = true) (l : Launch) (nar kn : Bool) (hnr : nar = false) (h0 : Heap) (t : Addr) (cs : List Int32) (Ft : Ar Z h0 t .byte (u16 cs)) (hcap : cs.length ≤ 4) (hpos : 0 < cs.length) (hc : CHL cs) (Sd : Sta Z Z.heap "java/lang/StringUTF16" "$assertionsDisabled" "Z" (.int 1)) (Sh : Sta Z Z.heap "java/lang/StringUTF16" "HI_BYTE_SHIFT" "I" (.int 0)) (Sl : Sta Z Z.heap "java/lang/StringUTF16" "LO_BYTE_SHIFT" "I" (.int 8)) :
    Ct l Z EL1 (⟨"java/lang/StringUTF16", "codePointCount", "([BIIZ)I"⟩ : MethodName) jdk_52_method_11_code 6 (Option.some Jvm.ClassFile.FieldType.int) ({ frames := 1, cells := 0, slots := 0, locals := 13 } : Room) #[.ref t, .int (0 : Int32), .int (Int32.ofNat cs.length), .int (0 : Int32)] h0 [] nar kn (fun v h sn => v = some (.int (Int32.ofNat (cs.length - cpn cs))) ∧ sn = [] ∧ h = h0) := by
  refine Ct.intro (plainFor_of_name pn_java_lang_StringUTF16) (ew hw) (ef_cpc4 t cs) ?_
  intro x hl hn0 hkn hsf hh H0
  have hnar : x.nar = false := hn0.trans hnr
  have H0 : Hr x b_cpc4 Z EL1 0 0 h0 [] 0 #[.val (.ref t), .val (.int (0 : Int32)), .val (.int (Int32.ofNat cs.length)), .val (.int (0 : Int32)), .unset, .unset] [] := H0
  have hcl := cpn_lt cs hpos
  have H1 : Hr x b_cpc4 Z EL1 0 0 h0 [] 3 #[.val (.ref t), .val (.int (0 : Int32)), .val (.int (Int32.ofNat cs.length)), .val (.int (0 : Int32)), .unset, .unset] [.int (1 : Int32)] := H0.getS (w45 hw) (Sd.ext H0.old) d_cpc4_0
  have H2 : Hr x b_cpc4 Z EL1 0 0 h0 [] 19 #[.val (.ref t), .val (.int (0 : Int32)), .val (.int (Int32.ofNat cs.length)), .val (.int (0 : Int32)), .unset, .unset] [] := H1.ifT d_cpc4_3 (XT.i0_ne_t (by decide))
  have H3 : Hr x b_cpc4 Z EL1 0 0 h0 [] 20 #[.val (.ref t), .val (.int (0 : Int32)), .val (.int (Int32.ofNat cs.length)), .val (.int (0 : Int32)), .unset, .unset] [.int (Int32.ofNat cs.length)] := H2.iloadN d_cpc4_19
  have H4 : Hr x b_cpc4 Z EL1 0 0 h0 [] 21 #[.val (.ref t), .val (.int (0 : Int32)), .val (.int (Int32.ofNat cs.length)), .val (.int (0 : Int32)), .unset, .unset] [.int (0 : Int32), .int (Int32.ofNat cs.length)] := H3.iloadN d_cpc4_20
  have H5 : Hr x b_cpc4 Z EL1 0 0 h0 [] 22 #[.val (.ref t), .val (.int (0 : Int32)), .val (.int (Int32.ofNat cs.length)), .val (.int (0 : Int32)), .unset, .unset] [.int (Int32.ofNat cs.length)] := H4.isub d_cpc4_21 (hv := (by simp))
  have H6 : Hr x b_cpc4 Z EL1 0 0 h0 [] 24 #[.val (.ref t), .val (.int (0 : Int32)), .val (.int (Int32.ofNat cs.length)), .val (.int (0 : Int32)), .val (.int (Int32.ofNat cs.length)), .unset] [] := H5.istore d_cpc4_22
  have H7 : Hr x b_cpc4 Z EL1 0 0 h0 [] 25 #[.val (.ref t), .val (.int (0 : Int32)), .val (.int (Int32.ofNat cs.length)), .val (.int (0 : Int32)), .val (.int (Int32.ofNat cs.length)), .unset] [.int (0 : Int32)] := H6.iloadN d_cpc4_24
  have H8 : Hr x b_cpc4 Z EL1 0 0 h0 [] 27 #[.val (.ref t), .val (.int (0 : Int32)), .val (.int (Int32.ofNat cs.length)), .val (.int (0 : Int32)), .val (.int (Int32.ofNat cs.length)), .val (.int (0 : Int32))] [] := H7.istore d_cpc4_25
  have H9 : Hr x b_cpc4 Z EL1 0 0 h0 [] 28 #[.val (.ref t), .val (.int (0 : Int32)), .val (.int (Int32.ofNat cs.length)), .val (.int (0 : Int32)), .val (.int (Int32.ofNat cs.length)), .val (.int (0 : Int32))] [.int (0 : Int32)] := H8.iloadN d_cpc4_27
  have H10 : Hr x b_cpc4 Z EL1 0 0 h0 [] 44 #[.val (.ref t), .val (.int (0 : Int32)), .val (.int (Int32.ofNat cs.length)), .val (.int (0 : Int32)), .val (.int (Int32.ofNat cs.length)), .val (.int (0 : Int32))] [] := H9.ifT d_cpc4_28 (XT.i0_eq_t rfl)
  have loop : ∀ (m i q : Nat), i ≤ cs.length → cs.length ≤ i + m → q + cpn (cs.drop i) = cpn cs → Hr x b_cpc4 Z EL1 0 0 h0 [] 44 #[.val (.ref t), .val (.int (0 : Int32)), .val (.int (Int32.ofNat cs.length)), .val (.int (0 : Int32)), .val (.int (Int32.ofNat (cs.length - q))), .val (.int (Int32.ofNat i))] [] → Ends x b_cpc4 Z EL1 (fun v h sn => v = some (.int (Int32.ofNat (cs.length - cpn cs))) ∧ sn = [] ∧ h = h0) := by
    intro m
    induction m with
    | zero =>
      intro i q hi hm hq H
      have hz : cpn (cs.drop i) = 0 := cpn_end (by omega)
      obtain rfl : q = cpn cs := by omega
      have H11 : Hr x b_cpc4 Z EL1 0 0 h0 [] 46 #[.val (.ref t), .val (.int (0 : Int32)), .val (.int (Int32.ofNat cs.length)), .val (.int (0 : Int32)), .val (.int (Int32.ofNat (cs.length - cpn cs))), .val (.int (Int32.ofNat i))] [.int (Int32.ofNat i)] := H.iload d_cpc4_44
      have H12 : Hr x b_cpc4 Z EL1 0 0 h0 [] 47 #[.val (.ref t), .val (.int (0 : Int32)), .val (.int (Int32.ofNat cs.length)), .val (.int (0 : Int32)), .val (.int (Int32.ofNat (cs.length - cpn cs))), .val (.int (Int32.ofNat i))] [.int (Int32.ofNat cs.length), .int (Int32.ofNat i)] := H11.iloadN d_cpc4_46
      have H13 : Hr x b_cpc4 Z EL1 0 0 h0 [] 48 #[.val (.ref t), .val (.int (0 : Int32)), .val (.int (Int32.ofNat cs.length)), .val (.int (0 : Int32)), .val (.int (Int32.ofNat (cs.length - cpn cs))), .val (.int (Int32.ofNat i))] [.int (1 : Int32), .int (Int32.ofNat cs.length), .int (Int32.ofNat i)] := H12.iconst d_cpc4_47
      have H14 : Hr x b_cpc4 Z EL1 0 0 h0 [] 49 #[.val (.ref t), .val (.int (0 : Int32)), .val (.int (Int32.ofNat cs.length)), .val (.int (0 : Int32)), .val (.int (Int32.ofNat (cs.length - cpn cs))), .val (.int (Int32.ofNat i))] [.int (Int32.ofNat (cs.length - 1)), .int (Int32.ofNat i)] := H13.isub d_cpc4_48 (hv := (pred_ofNat hpos (by omega)))
      have H15 : Hr x b_cpc4 Z EL1 0 0 h0 [] 88 #[.val (.ref t), .val (.int (0 : Int32)), .val (.int (Int32.ofNat cs.length)), .val (.int (0 : Int32)), .val (.int (Int32.ofNat (cs.length - cpn cs))), .val (.int (Int32.ofNat i))] [] := H14.icmpT d_cpc4_49 (XT.ii_ge_t (nlt_ofNat (by omega) (by omega)))
      have H16 : Hr x b_cpc4 Z EL1 0 0 h0 [] 90 #[.val (.ref t), .val (.int (0 : Int32)), .val (.int (Int32.ofNat cs.length)), .val (.int (0 : Int32)), .val (.int (Int32.ofNat (cs.length - cpn cs))), .val (.int (Int32.ofNat i))] [.int (Int32.ofNat (cs.length - cpn cs))] := H15.iload d_cpc4_88
      exact H16.finI d_cpc4_90 ⟨rfl, rfl, rfl⟩ sub0
    | succ m ih =>
      intro i q hi hm hq H
      by_cases hi2 : i + 1 < cs.length
      · have z156 := hi2
        have hi1 : i < cs.length := by omega
        have H157 : Hr x b_cpc4 Z EL1 0 0 h0 [] 46 #[.val (.ref t), .val (.int (0 : Int32)), .val (.int (Int32.ofNat cs.length)), .val (.int (0 : Int32)), .val (.int (Int32.ofNat (cs.length - q))), .val (.int (Int32.ofNat i))] [.int (Int32.ofNat i)] := H.iload d_cpc4_44
        have H158 : Hr x b_cpc4 Z EL1 0 0 h0 [] 47 #[.val (.ref t), .val (.int (0 : Int32)), .val (.int (Int32.ofNat cs.length)), .val (.int (0 : Int32)), .val (.int (Int32.ofNat (cs.length - q))), .val (.int (Int32.ofNat i))] [.int (Int32.ofNat cs.length), .int (Int32.ofNat i)] := H157.iloadN d_cpc4_46
        have H159 : Hr x b_cpc4 Z EL1 0 0 h0 [] 48 #[.val (.ref t), .val (.int (0 : Int32)), .val (.int (Int32.ofNat cs.length)), .val (.int (0 : Int32)), .val (.int (Int32.ofNat (cs.length - q))), .val (.int (Int32.ofNat i))] [.int (1 : Int32), .int (Int32.ofNat cs.length), .int (Int32.ofNat i)] := H158.iconst d_cpc4_47
        have H160 : Hr x b_cpc4 Z EL1 0 0 h0 [] 49 #[.val (.ref t), .val (.int (0 : Int32)), .val (.int (Int32.ofNat cs.length)), .val (.int (0 : Int32)), .val (.int (Int32.ofNat (cs.length - q))), .val (.int (Int32.ofNat i))] [.int (Int32.ofNat (cs.length - 1)), .int (Int32.ofNat i)] := H159.isub d_cpc4_48 (hv := (pred_ofNat hpos (by omega)))
        have H161 : Hr x b_cpc4 Z EL1 0 0 h0 [] 52 #[.val (.ref t), .val (.int (0 : Int32)), .val (.int (Int32.ofNat cs.length)), .val (.int (0 : Int32)), .val (.int (Int32.ofNat (cs.length - q))), .val (.int (Int32.ofNat i))] [] := H160.icmpF d_cpc4_49 (XT.ii_ge_f (lt_ofNat (by omega) (by omega)))
        have H162 : Hr x b_cpc4 Z EL1 0 0 h0 [] 53 #[.val (.ref t), .val (.int (0 : Int32)), .val (.int (Int32.ofNat cs.length)), .val (.int (0 : Int32)), .val (.int (Int32.ofNat (cs.length - q))), .val (.int (Int32.ofNat i))] [.ref t] := H161.aloadN d_cpc4_52
        have H163 : Hr x b_cpc4 Z EL1 0 0 h0 [] 55 #[.val (.ref t), .val (.int (0 : Int32)), .val (.int (Int32.ofNat cs.length)), .val (.int (0 : Int32)), .val (.int (Int32.ofNat (cs.length - q))), .val (.int (Int32.ofNat i))] [.int (Int32.ofNat i), .ref t] := H162.iload d_cpc4_53
        have H164 : Hr x b_cpc4 Z EL1 0 0 h0 [] 58 #[.val (.ref t), .val (.int (0 : Int32)), .val (.int (Int32.ofNat cs.length)), .val (.int (0 : Int32)), .val (.int (Int32.ofNat (cs.length - q))), .val (.int (Int32.ofNat (i + 1)))] [.int (Int32.ofNat i), .ref t] := H163.iinc d_cpc4_55 (v := (Int32.ofNat (i + 1))) (hv := (inc_ofNat i).symm)
        obtain ⟨_, h1, _, ⟨rfl, rfl, e1⟩, K1, H165⟩ := H164.callS (argsL := [.ref t, .int (Int32.ofNat i)]) (rest := []) (Wr := 0) (ct_getc hw x.l x.nar x.kn hnar h0 t i cs hi1 Ft hc Sd Sh Sl) sub0 (w48 hw) (w49 hw) (w26 hw) (w50 hw) d_cpc4_58 pd_getc rfl (hf := by first | decide | (simp [b_cpc4, Bx.R]; done) | (simp [b_cpc4, Bx.R]; omega)) (hl := by first | decide | (simp [b_cpc4, Bx.R]; done) | (simp [b_cpc4, Bx.R]; omega)) (hc := by first | decide | (simp [b_cpc4, Bx.R]; done) | (simp [b_cpc4, Bx.R]; omega)) (hs := by first | decide | (simp [b_cpc4, Bx.R]; done) | (simp [b_cpc4, Bx.R]; omega))
        rw [e1] at H165
        have H165 : Hr x b_cpc4 Z EL1 0 0 h0 [] 61 #[.val (.ref t), .val (.int (0 : Int32)), .val (.int (Int32.ofNat cs.length)), .val (.int (0 : Int32)), .val (.int (Int32.ofNat (cs.length - q))), .val (.int (Int32.ofNat (i + 1)))] [.int (cs[i])] := H165
        obtain ⟨_, h2, _, ⟨rfl, rfl, e2⟩, K2, H166⟩ := H165.callS (argsL := [.int (cs[i])]) (rest := []) (Wr := 0) (ct_ihs hw x.l x.nar x.kn hnar h0 cs[i]) sub0 (w147 hw) (w148 hw) (w149 hw) (w150 hw) d_cpc4_61 pd_ihs rfl (hf := by first | decide | (simp [b_cpc4, Bx.R]; done) | (simp [b_cpc4, Bx.R]; omega)) (hl := by first | decide | (simp [b_cpc4, Bx.R]; done) | (simp [b_cpc4, Bx.R]; omega)) (hc := by first | decide | (simp [b_cpc4, Bx.R]; done) | (simp [b_cpc4, Bx.R]; omega)) (hs := by first | decide | (simp [b_cpc4, Bx.R]; done) | (simp [b_cpc4, Bx.R]; omega))
        rw [e2] at H166
        have H166 : Hr x b_cpc4 Z EL1 0 0 h0 [] 64 #[.val (.ref t), .val (.int (0 : Int32)), .val (.int (Int32.ofNat cs.length)), .val (.int (0 : Int32)), .val (.int (Int32.ofNat (cs.length - q))), .val (.int (Int32.ofNat (i + 1)))] [.int (b01 (hiB cs[i]))] := H166
        rcases Bool.eq_false_or_eq_true (hiB cs[i]) with qh | qh
        · have z166 := qh
          have H167 : Hr x b_cpc4 Z EL1 0 0 h0 [] 67 #[.val (.ref t), .val (.int (0 : Int32)), .val (.int (Int32.ofNat cs.length)), .val (.int (0 : Int32)), .val (.int (Int32.ofNat (cs.length - q))), .val (.int (Int32.ofNat (i + 1)))] [] := H166.ifF d_cpc4_64 (XT.i0_eq_f (by rw [b01_t qh]; decide))
          have H168 : Hr x b_cpc4 Z EL1 0 0 h0 [] 68 #[.val (.ref t), .val (.int (0 : Int32)), .val (.int (Int32.ofNat cs.length)), .val (.int (0 : Int32)), .val (.int (Int32.ofNat (cs.length - q))), .val (.int (Int32.ofNat (i + 1)))] [.ref t] := H167.aloadN d_cpc4_67
          have H169 : Hr x b_cpc4 Z EL1 0 0 h0 [] 70 #[.val (.ref t), .val (.int (0 : Int32)), .val (.int (Int32.ofNat cs.length)), .val (.int (0 : Int32)), .val (.int (Int32.ofNat (cs.length - q))), .val (.int (Int32.ofNat (i + 1)))] [.int (Int32.ofNat (i + 1)), .ref t] := H168.iload d_cpc4_68
          obtain ⟨_, h3, _, ⟨rfl, rfl, e3⟩, K3, H170⟩ := H169.callS (argsL := [.ref t, .int (Int32.ofNat (i + 1))]) (rest := []) (Wr := 0) (ct_getc hw x.l x.nar x.kn hnar h0 t (i + 1) cs hi2 Ft hc Sd Sh Sl) sub0 (w48 hw) (w49 hw) (w26 hw) (w50 hw) d_cpc4_70 pd_getc rfl (hf := by first | decide | (simp [b_cpc4, Bx.R]; done) | (simp [b_cpc4, Bx.R]; omega)) (hl := by first | decide | (simp [b_cpc4, Bx.R]; done) | (simp [b_cpc4, Bx.R]; omega)) (hc := by first | decide | (simp [b_cpc4, Bx.R]; done) | (simp [b_cpc4, Bx.R]; omega)) (hs := by first | decide | (simp [b_cpc4, Bx.R]; done) | (simp [b_cpc4, Bx.R]; omega))
          rw [e3] at H170
          have H170 : Hr x b_cpc4 Z EL1 0 0 h0 [] 73 #[.val (.ref t), .val (.int (0 : Int32)), .val (.int (Int32.ofNat cs.length)), .val (.int (0 : Int32)), .val (.int (Int32.ofNat (cs.length - q))), .val (.int (Int32.ofNat (i + 1)))] [.int (cs[i + 1])] := H170
          obtain ⟨_, h4, _, ⟨rfl, rfl, e4⟩, K4, H171⟩ := H170.callS (argsL := [.int (cs[i + 1])]) (rest := []) (Wr := 0) (ct_ils hw x.l x.nar x.kn hnar h0 cs[i + 1]) sub0 (w156 hw) (w157 hw) (w149 hw) (w158 hw) d_cpc4_73 pd_ils rfl (hf := by first | decide | (simp [b_cpc4, Bx.R]; done) | (simp [b_cpc4, Bx.R]; omega)) (hl := by first | decide | (simp [b_cpc4, Bx.R]; done) | (simp [b_cpc4, Bx.R]; omega)) (hc := by first | decide | (simp [b_cpc4, Bx.R]; done) | (simp [b_cpc4, Bx.R]; omega)) (hs := by first | decide | (simp [b_cpc4, Bx.R]; done) | (simp [b_cpc4, Bx.R]; omega))
          rw [e4] at H171
          have H171 : Hr x b_cpc4 Z EL1 0 0 h0 [] 76 #[.val (.ref t), .val (.int (0 : Int32)), .val (.int (Int32.ofNat cs.length)), .val (.int (0 : Int32)), .val (.int (Int32.ofNat (cs.length - q))), .val (.int (Int32.ofNat (i + 1)))] [.int (b01 (loB cs[i + 1]))] := H171
          rcases Bool.eq_false_or_eq_true (loB cs[i + 1]) with ql | ql
          · have z171 := ql
            have hcy := cpn_yes hi2 qh ql
            have H172 : Hr x b_cpc4 Z EL1 0 0 h0 [] 79 #[.val (.ref t), .val (.int (0 : Int32)), .val (.int (Int32.ofNat cs.length)), .val (.int (0 : Int32)), .val (.int (Int32.ofNat (cs.length - q))), .val (.int (Int32.ofNat (i + 1)))] [] := H171.ifF d_cpc4_76 (XT.i0_eq_f (by rw [b01_t ql]; decide))
            have H173 : Hr x b_cpc4 Z EL1 0 0 h0 [] 82 #[.val (.ref t), .val (.int (0 : Int32)), .val (.int (Int32.ofNat cs.length)), .val (.int (0 : Int32)), .val (.int (Int32.ofNat (cs.length - (q + 1)))), .val (.int (Int32.ofNat (i + 1)))] [] := H172.iinc d_cpc4_79 (v := (Int32.ofNat (cs.length - (q + 1)))) (hv := ((dec_ofNat (by omega) (by omega)).trans (by rw [Nat.sub_sub])))
            have H174 : Hr x b_cpc4 Z EL1 0 0 h0 [] 85 #[.val (.ref t), .val (.int (0 : Int32)), .val (.int (Int32.ofNat cs.length)), .val (.int (0 : Int32)), .val (.int (Int32.ofNat (cs.length - (q + 1)))), .val (.int (Int32.ofNat (i + 2)))] [] := H173.iinc d_cpc4_82 (v := (Int32.ofNat (i + 2))) (hv := (inc_ofNat (i + 1)).symm)
            have H175 : Hr x b_cpc4 Z EL1 0 0 h0 [] 44 #[.val (.ref t), .val (.int (0 : Int32)), .val (.int (Int32.ofNat cs.length)), .val (.int (0 : Int32)), .val (.int (Int32.ofNat (cs.length - (q + 1)))), .val (.int (Int32.ofNat (i + 2)))] [] := H174.goto d_cpc4_85
            exact ih (i + 2) (q + 1) (by omega) (by omega) (by omega) H175
          · have z175 := ql
            have hcn := cpn_no hi2 (by rw [qh, ql]; rfl)
            have H176 : Hr x b_cpc4 Z EL1 0 0 h0 [] 44 #[.val (.ref t), .val (.int (0 : Int32)), .val (.int (Int32.ofNat cs.length)), .val (.int (0 : Int32)), .val (.int (Int32.ofNat (cs.length - q))), .val (.int (Int32.ofNat (i + 1)))] [] := H171.ifT d_cpc4_76 (XT.i0_eq_t (b01_f ql))
            exact ih (i + 1) q (by omega) (by omega) (by omega) H176
        · have z176 := qh
          have hcn := cpn_no hi2 (by rw [qh]; rfl)
          have H177 : Hr x b_cpc4 Z EL1 0 0 h0 [] 44 #[.val (.ref t), .val (.int (0 : Int32)), .val (.int (Int32.ofNat cs.length)), .val (.int (0 : Int32)), .val (.int (Int32.ofNat (cs.length - q))), .val (.int (Int32.ofNat (i + 1)))] [] := H166.ifT d_cpc4_64 (XT.i0_eq_t (b01_f qh))
          exact ih (i + 1) q (by omega) (by omega) (by omega) H177
      · have z177 := hi2
        have hz : cpn (cs.drop i) = 0 := cpn_end (by omega)
        obtain rfl : q = cpn cs := by omega
        have H178 : Hr x b_cpc4 Z EL1 0 0 h0 [] 46 #[.val (.ref t), .val (.int (0 : Int32)), .val (.int (Int32.ofNat cs.length)), .val (.int (0 : Int32)), .val (.int (Int32.ofNat (cs.length - cpn cs))), .val (.int (Int32.ofNat i))] [.int (Int32.ofNat i)] := H.iload d_cpc4_44
        have H179 : Hr x b_cpc4 Z EL1 0 0 h0 [] 47 #[.val (.ref t), .val (.int (0 : Int32)), .val (.int (Int32.ofNat cs.length)), .val (.int (0 : Int32)), .val (.int (Int32.ofNat (cs.length - cpn cs))), .val (.int (Int32.ofNat i))] [.int (Int32.ofNat cs.length), .int (Int32.ofNat i)] := H178.iloadN d_cpc4_46
        have H180 : Hr x b_cpc4 Z EL1 0 0 h0 [] 48 #[.val (.ref t), .val (.int (0 : Int32)), .val (.int (Int32.ofNat cs.length)), .val (.int (0 : Int32)), .val (.int (Int32.ofNat (cs.length - cpn cs))), .val (.int (Int32.ofNat i))] [.int (1 : Int32), .int (Int32.ofNat cs.length), .int (Int32.ofNat i)] := H179.iconst d_cpc4_47
        have H181 : Hr x b_cpc4 Z EL1 0 0 h0 [] 49 #[.val (.ref t), .val (.int (0 : Int32)), .val (.int (Int32.ofNat cs.length)), .val (.int (0 : Int32)), .val (.int (Int32.ofNat (cs.length - cpn cs))), .val (.int (Int32.ofNat i))] [.int (Int32.ofNat (cs.length - 1)), .int (Int32.ofNat i)] := H180.isub d_cpc4_48 (hv := (pred_ofNat hpos (by omega)))
        have H182 : Hr x b_cpc4 Z EL1 0 0 h0 [] 88 #[.val (.ref t), .val (.int (0 : Int32)), .val (.int (Int32.ofNat cs.length)), .val (.int (0 : Int32)), .val (.int (Int32.ofNat (cs.length - cpn cs))), .val (.int (Int32.ofNat i))] [] := H181.icmpT d_cpc4_49 (XT.ii_ge_t (nlt_ofNat (by omega) (by omega)))
        have H183 : Hr x b_cpc4 Z EL1 0 0 h0 [] 90 #[.val (.ref t), .val (.int (0 : Int32)), .val (.int (Int32.ofNat cs.length)), .val (.int (0 : Int32)), .val (.int (Int32.ofNat (cs.length - cpn cs))), .val (.int (Int32.ofNat i))] [.int (Int32.ofNat (cs.length - cpn cs))] := H182.iload d_cpc4_88
        exact H183.finI d_cpc4_90 ⟨rfl, rfl, rfl⟩ sub0
  exact loop cs.length 0 0 (by omega) (by omega) (by simp) H10
def b_cpc3 : Bx := (({ frames := 2, cells := 0, slots := 0, locals := 30 } : Room), (⟨"java/lang/StringUTF16", "codePointCount", "([BII)I"⟩ : MethodName), jdk_52_method_12_code, 3, (Option.some Jvm.ClassFile.FieldType.int))
theorem ef_cpc3 (t : Addr) (cs : List Int32) (mI : MethodId) : entryFrame mI #[.ref t, .int (0 : Int32), .int (Int32.ofNat cs.length)] 3 = mkF mI 0 #[.val (.ref t), .val (.int (0 : Int32)), .val (.int (Int32.ofNat cs.length))] [] := by first | (simp [entryFrame, mkF, argsToLocals, Value.category]; done) | rfl
theorem pd_cpc3 : parseMethodDescriptor "([BII)I" = some ⟨[(.array .byte), .int, .int], some .int⟩ := by decide +kernel
set_option maxRecDepth 65536 in
set_option maxHeartbeats 4000000 in
theorem ct_cpc3 {a0 : Array Value} {Z : State} (hw : ∀ d ∈ tables_1, d.before a0 Z = true) (l : Launch) (nar kn : Bool) (hnr : nar = false) (h0 : Heap) (t : Addr) (cs : List Int32) (Ft : Ar Z h0 t .byte (u16 cs)) (hcap : cs.length ≤ 4) (hpos : 0 < cs.length) (hc : CHL cs) (Sd : Sta Z Z.heap "java/lang/StringUTF16" "$assertionsDisabled" "Z" (.int 1)) (Sh : Sta Z Z.heap "java/lang/StringUTF16" "HI_BYTE_SHIFT" "I" (.int 0)) (Sl : Sta Z Z.heap "java/lang/StringUTF16" "LO_BYTE_SHIFT" "I" (.int 8)) :
    Ct l Z EL1 (⟨"java/lang/StringUTF16", "codePointCount", "([BII)I"⟩ : MethodName) jdk_52_method_12_code 3 (Option.some Jvm.ClassFile.FieldType.int) ({ frames := 2, cells := 0, slots := 0, locals := 30 } : Room) #[.ref t, .int (0 : Int32), .int (Int32.ofNat cs.length)] h0 [] nar kn (fun v h sn => v = some (.int (Int32.ofNat (cs.length - cpn cs))) ∧ sn = [] ∧ h = h0) := by
  refine Ct.intro (plainFor_of_name pn_java_lang_StringUTF16) (ew hw) (ef_cpc3 t cs) ?_
  intro x hl hn0 hkn hsf hh H0
  have hnar : x.nar = false := hn0.trans hnr
  have H0 : Hr x b_cpc3 Z EL1 0 0 h0 [] 0 #[.val (.ref t), .val (.int (0 : Int32)), .val (.int (Int32.ofNat cs.length))] [] := H0
  have H1 : Hr x b_cpc3 Z EL1 0 0 h0 [] 1 #[.val (.ref t), .val (.int (0 : Int32)), .val (.int (Int32.ofNat cs.length))] [.ref t] := H0.aloadN d_cpc3_0
  have H2 : Hr x b_cpc3 Z EL1 0 0 h0 [] 2 #[.val (.ref t), .val (.int (0 : Int32)), .val (.int (Int32.ofNat cs.length))] [.int (0 : Int32), .ref t] := H1.iloadN d_cpc3_1
  have H3 : Hr x b_cpc3 Z EL1 0 0 h0 [] 3 #[.val (.ref t), .val (.int (0 : Int32)), .val (.int (Int32.ofNat cs.length))] [.int (Int32.ofNat cs.length), .int (0 : Int32), .ref t] := H2.iloadN d_cpc3_2
  have H4 : Hr x b_cpc3 Z EL1 0 0 h0 [] 4 #[.val (.ref t), .val (.int (0 : Int32)), .val (.int (Int32.ofNat cs.length))] [.int (0 : Int32), .int (Int32.ofNat cs.length), .int (0 : Int32), .ref t] := H3.iconst d_cpc3_3
  obtain ⟨_, h1, _, ⟨rfl, rfl, e1⟩, K1, H5⟩ := H4.callS (argsL := [.ref t, .int (0 : Int32), .int (Int32.ofNat cs.length), .int (0 : Int32)]) (rest := []) (Wr := 0) (ct_cpc4 hw x.l x.nar x.kn hnar h0 t cs Ft hcap hpos hc Sd Sh Sl) sub0 (w100 hw) (w101 hw) (w26 hw) (w102 hw) d_cpc3_4 pd_cpc4 rfl (hf := by first | decide | (simp [b_cpc3, Bx.R]; done) | (simp [b_cpc3, Bx.R]; omega)) (hl := by first | decide | (simp [b_cpc3, Bx.R]; done) | (simp [b_cpc3, Bx.R]; omega)) (hc := by first | decide | (simp [b_cpc3, Bx.R]; done) | (simp [b_cpc3, Bx.R]; omega)) (hs := by first | decide | (simp [b_cpc3, Bx.R]; done) | (simp [b_cpc3, Bx.R]; omega))
  rw [e1] at H5
  have H5 : Hr x b_cpc3 Z EL1 0 0 h0 [] 7 #[.val (.ref t), .val (.int (0 : Int32)), .val (.int (Int32.ofNat cs.length))] [.int (Int32.ofNat (cs.length - cpn cs))] := H5
  exact H5.finI d_cpc3_7 ⟨rfl, rfl, rfl⟩ sub0
def b_scpc : Bx := (({ frames := 3, cells := 0, slots := 0, locals := 44 } : Room), (⟨"java/lang/String", "codePointCount", "(II)I"⟩ : MethodName), jdk_42_method_59_code, 3, (Option.some Jvm.ClassFile.FieldType.int))
theorem ef_scpc (a : Addr) (cs : List Int32) (mI : MethodId) : entryFrame mI #[.ref a, .int (0 : Int32), .int (Int32.ofNat cs.length)] 3 = mkF mI 0 #[.val (.ref a), .val (.int (0 : Int32)), .val (.int (Int32.ofNat cs.length))] [] := by first | (simp [entryFrame, mkF, argsToLocals, Value.category]; done) | rfl
theorem pd_scpc : parseMethodDescriptor "(II)I" = some ⟨[.int, .int], some .int⟩ := by decide +kernel
set_option maxRecDepth 65536 in
set_option maxHeartbeats 4000000 in
theorem ct_scpc {a0 : Array Value} {Z : State} (hw : ∀ d ∈ tables_1, d.before a0 Z = true) (l : Launch) (nar kn : Bool) (hnr : nar = false) (h0 : Heap) (a : Addr) (cs : List Int32) (F : SS Z h0 a cs) (cz : Int32) (O : Sta Z Z.heap "java/lang/String" "COMPACT_STRINGS" "Z" (.int cz)) (hcz : ¬ cz = 0) (hcap : cs.length ≤ 4) (hpos : 0 < cs.length) (hc : CHL cs) (Sd : Sta Z Z.heap "java/lang/StringUTF16" "$assertionsDisabled" "Z" (.int 1)) (Sh : Sta Z Z.heap "java/lang/StringUTF16" "HI_BYTE_SHIFT" "I" (.int 0)) (Sl : Sta Z Z.heap "java/lang/StringUTF16" "LO_BYTE_SHIFT" "I" (.int 8)) :
    Ct l Z EL1 (⟨"java/lang/String", "codePointCount", "(II)I"⟩ : MethodName) jdk_42_method_59_code 3 (Option.some Jvm.ClassFile.FieldType.int) ({ frames := 3, cells := 0, slots := 0, locals := 44 } : Room) #[.ref a, .int (0 : Int32), .int (Int32.ofNat cs.length)] h0 [] nar kn (fun v h sn => v = some (.int (Int32.ofNat (cs.length - cpn cs))) ∧ sn = [] ∧ h = h0) := by
  refine Ct.intro (plainFor_of_name pn_java_lang_String) (ew hw) (ef_scpc a cs) ?_
  intro x hl hn0 hkn hsf hh H0
  have hnar : x.nar = false := hn0.trans hnr
  have H0 : Hr x b_scpc Z EL1 0 0 h0 [] 0 #[.val (.ref a), .val (.int (0 : Int32)), .val (.int (Int32.ofNat cs.length))] [] := H0
  have F2 := F
  obtain ⟨t, Ea, Fv, F2⟩ := F2
  have H1 : Hr x b_scpc Z EL1 0 0 h0 [] 1 #[.val (.ref a), .val (.int (0 : Int32)), .val (.int (Int32.ofNat cs.length))] [.int (0 : Int32)] := H0.iloadN d_scpc_0
  have H2 : Hr x b_scpc Z EL1 0 0 h0 [] 2 #[.val (.ref a), .val (.int (0 : Int32)), .val (.int (Int32.ofNat cs.length))] [.int (Int32.ofNat cs.length), .int (0 : Int32)] := H1.iloadN d_scpc_1
  have H3 : Hr x b_scpc Z EL1 0 0 h0 [] 3 #[.val (.ref a), .val (.int (0 : Int32)), .val (.int (Int32.ofNat cs.length))] [.ref a, .int (Int32.ofNat cs.length), .int (0 : Int32)] := H2.aloadN d_scpc_2
  obtain ⟨_, h1, _, ⟨rfl, rfl, e1⟩, K1, H4⟩ := H3.callV (argsL := []) (rest := [.int (Int32.ofNat cs.length), .int (0 : Int32)]) (Wr := 2) (a := a) (ct_slen hw x.l x.nar x.kn hnar h0 a cs F cz O hcz hcap) sub0 Ea (w84 hw) (w70 hw) (w72 hw) (w72 hw) (w71 hw) (w12 hw) (w73 hw) d_scpc_3 pd_slen rfl (hf := by first | decide | (simp [b_scpc, Bx.R]; done) | (simp [b_scpc, Bx.R]; omega)) (hl := by first | decide | (simp [b_scpc, Bx.R]; done) | (simp [b_scpc, Bx.R]; omega)) (hc := by first | decide | (simp [b_scpc, Bx.R]; done) | (simp [b_scpc, Bx.R]; omega)) (hs := by first | decide | (simp [b_scpc, Bx.R]; done) | (simp [b_scpc, Bx.R]; omega))
  rw [e1] at H4
  have H4 : Hr x b_scpc Z EL1 0 0 h0 [] 6 #[.val (.ref a), .val (.int (0 : Int32)), .val (.int (Int32.ofNat cs.length))] [.int (Int32.ofNat cs.length), .int (Int32.ofNat cs.length), .int (0 : Int32)] := H4
  obtain ⟨_, h2, _, ⟨rfl, rfl, e2⟩, K2, H5⟩ := H4.callS (argsL := [.int (0 : Int32), .int (Int32.ofNat cs.length), .int (Int32.ofNat cs.length)]) (rest := []) (Wr := 0) (ct_ocft hw x.l x.nar x.kn hnar h0 cs.length (by omega)) sub0 (w85 hw) (w86 hw) (w67 hw) (w87 hw) d_scpc_6 pd_ocft rfl (hf := by first | decide | (simp [b_scpc, Bx.R]; done) | (simp [b_scpc, Bx.R]; omega)) (hl := by first | decide | (simp [b_scpc, Bx.R]; done) | (simp [b_scpc, Bx.R]; omega)) (hc := by first | decide | (simp [b_scpc, Bx.R]; done) | (simp [b_scpc, Bx.R]; omega)) (hs := by first | decide | (simp [b_scpc, Bx.R]; done) | (simp [b_scpc, Bx.R]; omega))
  rw [e2] at H5
  have H5 : Hr x b_scpc Z EL1 0 0 h0 [] 9 #[.val (.ref a), .val (.int (0 : Int32)), .val (.int (Int32.ofNat cs.length))] [.int (0 : Int32)] := H5
  have H6 : Hr x b_scpc Z EL1 0 0 h0 [] 10 #[.val (.ref a), .val (.int (0 : Int32)), .val (.int (Int32.ofNat cs.length))] [] := H5.pop d_scpc_9
  have H7 : Hr x b_scpc Z EL1 0 0 h0 [] 11 #[.val (.ref a), .val (.int (0 : Int32)), .val (.int (Int32.ofNat cs.length))] [.ref a] := H6.aloadN d_scpc_10
  obtain ⟨_, h3, _, ⟨rfl, rfl, e3⟩, K3, H8⟩ := H7.callV (argsL := []) (rest := []) (Wr := 0) (a := a) (ct_sil1 hw x.l x.nar x.kn hnar h0 a cs F cz O hcz) sub0 Ea (w92 hw) (w93 hw) (w95 hw) (w95 hw) (w94 hw) (w12 hw) (w96 hw) d_scpc_11 pd_sil1 rfl (hf := by first | decide | (simp [b_scpc, Bx.R]; done) | (simp [b_scpc, Bx.R]; omega)) (hl := by first | decide | (simp [b_scpc, Bx.R]; done) | (simp [b_scpc, Bx.R]; omega)) (hc := by first | decide | (simp [b_scpc, Bx.R]; done) | (simp [b_scpc, Bx.R]; omega)) (hs := by first | decide | (simp [b_scpc, Bx.R]; done) | (simp [b_scpc, Bx.R]; omega))
  rw [e3] at H8
  have H8 : Hr x b_scpc Z EL1 0 0 h0 [] 14 #[.val (.ref a), .val (.int (0 : Int32)), .val (.int (Int32.ofNat cs.length))] [.int (if Lat cs then 1 else 0)] := H8
  rcases F2 with ⟨hla, Fc, Ft⟩ | ⟨hla, Fc, Ft⟩
  · have z183 := True.intro
    have H184 : Hr x b_scpc Z EL1 0 0 h0 [] 17 #[.val (.ref a), .val (.int (0 : Int32)), .val (.int (Int32.ofNat cs.length))] [] := H8.ifF d_scpc_14 (XT.i0_eq_f (by rw [if_pos hla]; decide))
    have H185 : Hr x b_scpc Z EL1 0 0 h0 [] 18 #[.val (.ref a), .val (.int (0 : Int32)), .val (.int (Int32.ofNat cs.length))] [.int (Int32.ofNat cs.length)] := H184.iloadN d_scpc_17
    have H186 : Hr x b_scpc Z EL1 0 0 h0 [] 19 #[.val (.ref a), .val (.int (0 : Int32)), .val (.int (Int32.ofNat cs.length))] [.int (0 : Int32), .int (Int32.ofNat cs.length)] := H185.iloadN d_scpc_18
    have H187 : Hr x b_scpc Z EL1 0 0 h0 [] 20 #[.val (.ref a), .val (.int (0 : Int32)), .val (.int (Int32.ofNat cs.length))] [.int (Int32.ofNat cs.length)] := H186.isub d_scpc_19 (hv := (by simp))
    exact H187.finI d_scpc_20 ⟨by rw [cpn_lat cs hla, Nat.sub_zero], rfl, rfl⟩ sub0
  · have z187 := True.intro
    have H188 : Hr x b_scpc Z EL1 0 0 h0 [] 21 #[.val (.ref a), .val (.int (0 : Int32)), .val (.int (Int32.ofNat cs.length))] [] := H8.ifT d_scpc_14 (XT.i0_eq_t (if_neg hla))
    have H189 : Hr x b_scpc Z EL1 0 0 h0 [] 22 #[.val (.ref a), .val (.int (0 : Int32)), .val (.int (Int32.ofNat cs.length))] [.ref a] := H188.aloadN d_scpc_21
    have H190 : Hr x b_scpc Z EL1 0 0 h0 [] 25 #[.val (.ref a), .val (.int (0 : Int32)), .val (.int (Int32.ofNat cs.length))] [.ref t] := H189.getF (w56 hw) Fv d_scpc_22
    have H191 : Hr x b_scpc Z EL1 0 0 h0 [] 26 #[.val (.ref a), .val (.int (0 : Int32)), .val (.int (Int32.ofNat cs.length))] [.int (0 : Int32), .ref t] := H190.iloadN d_scpc_25
    have H192 : Hr x b_scpc Z EL1 0 0 h0 [] 27 #[.val (.ref a), .val (.int (0 : Int32)), .val (.int (Int32.ofNat cs.length))] [.int (Int32.ofNat cs.length), .int (0 : Int32), .ref t] := H191.iloadN d_scpc_26
    obtain ⟨_, h4, _, ⟨rfl, rfl, e4⟩, K4, H193⟩ := H192.callS (argsL := [.ref t, .int (0 : Int32), .int (Int32.ofNat cs.length)]) (rest := []) (Wr := 0) (ct_cpc3 hw x.l x.nar x.kn hnar h0 t cs Ft hcap hpos hc Sd Sh Sl) sub0 (w97 hw) (w98 hw) (w26 hw) (w99 hw) d_scpc_27 pd_cpc3 rfl (hf := by first | decide | (simp [b_scpc, Bx.R]; done) | (simp [b_scpc, Bx.R]; omega)) (hl := by first | decide | (simp [b_scpc, Bx.R]; done) | (simp [b_scpc, Bx.R]; omega)) (hc := by first | decide | (simp [b_scpc, Bx.R]; done) | (simp [b_scpc, Bx.R]; omega)) (hs := by first | decide | (simp [b_scpc, Bx.R]; done) | (simp [b_scpc, Bx.R]; omega))
    rw [e4] at H193
    have H193 : Hr x b_scpc Z EL1 0 0 h0 [] 30 #[.val (.ref a), .val (.int (0 : Int32)), .val (.int (Int32.ofNat cs.length))] [.int (Int32.ofNat (cs.length - cpn cs))] := H193
    exact H193.finI d_scpc_30 ⟨rfl, rfl, rfl⟩ sub0
def b_cenI : Bx := (({ frames := 0, cells := 0, slots := 0, locals := 0 } : Room), (⟨"java/lang/StringLatin1", "canEncode", "(I)Z"⟩ : MethodName), jdk_43_method_4_code, 1, (Option.some Jvm.ClassFile.FieldType.boolean))
theorem ef_cenI  (mI : MethodId) : entryFrame mI #[.int (0 : Int32)] 1 = mkF mI 0 #[.val (.int (0 : Int32))] [] := by first | (simp [entryFrame, mkF, argsToLocals, Value.category]; done) | rfl
theorem pn_java_lang_StringLatin1 : plainName "java/lang/StringLatin1" = true := by first | (simp [plainName, overriddenIn]; done) | decide +kernel
theorem pd_cenI : parseMethodDescriptor "(I)Z" = some ⟨[.int], some .boolean⟩ := by decide +kernel
set_option maxRecDepth 65536 in
set_option maxHeartbeats 4000000 in
theorem ct_cenI {a0 : Array Value} {Z : State} (hw : ∀ d ∈ tables_1, d.before a0 Z = true) (l : Launch) (nar kn : Bool) (hnr : nar = false) (h0 : Heap)  :
    Ct l Z EL1 (⟨"java/lang/StringLatin1", "canEncode", "(I)Z"⟩ : MethodName) jdk_43_method_4_code 1 (Option.some Jvm.ClassFile.FieldType.boolean) ({ frames := 0, cells := 0, slots := 0, locals := 0 } : Room) #[.int (0 : Int32)] h0 [] nar kn (fun v h sn => v = some (.int 1) ∧ sn = [] ∧ h = h0) := by
  refine Ct.intro (plainFor_of_name pn_java_lang_StringLatin1) (ew hw) (ef_cenI ) ?_
  intro x hl hn0 hkn hsf hh H0
  have hnar : x.nar = false := hn0.trans hnr
  have H0 : Hr x b_cenI Z EL1 0 0 h0 [] 0 #[.val (.int (0 : Int32))] [] := H0
  have H1 : Hr x b_cenI Z EL1 0 0 h0 [] 1 #[.val (.int (0 : Int32))] [.int (0 : Int32)] := H0.iloadN d_cenI_0
  have H2 : Hr x b_cenI Z EL1 0 0 h0 [] 4 #[.val (.int (0 : Int32))] [] := H1.ifF d_cenI_1 (XT.i0_lt_f (by decide))
  have H3 : Hr x b_cenI Z EL1 0 0 h0 [] 5 #[.val (.int (0 : Int32))] [.int (0 : Int32)] := H2.iloadN d_cenI_4
  have H4 : Hr x b_cenI Z EL1 0 0 h0 [] 8 #[.val (.int (0 : Int32))] [.int (255 : Int32), .int (0 : Int32)] := H3.sipush d_cenI_5
  have H5 : Hr x b_cenI Z EL1 0 0 h0 [] 11 #[.val (.int (0 : Int32))] [] := H4.icmpF d_cenI_8 (XT.ii_gt_f (by decide))
  have H6 : Hr x b_cenI Z EL1 0 0 h0 [] 12 #[.val (.int (0 : Int32))] [.int (1 : Int32)] := H5.iconst d_cenI_11
  have H7 : Hr x b_cenI Z EL1 0 0 h0 [] 16 #[.val (.int (0 : Int32))] [.int (1 : Int32)] := H6.goto d_cenI_12
  exact H7.finZ d_cenI_16 (t := .boolean) (by first | rfl | decide) ⟨rfl, rfl, rfl⟩ sub0
def b_ioch : Bx := (({ frames := 0, cells := 0, slots := 0, locals := 0 } : Room), (⟨"java/lang/StringLatin1", "indexOfChar", "([BIII)I"⟩ : MethodName), jdk_43_method_23_code, 6, (Option.some Jvm.ClassFile.FieldType.int))
theorem ef_ioch (t : Addr) (bs : List Int32) (mI : MethodId) : entryFrame mI #[.ref t, .int (0 : Int32), .int (0 : Int32), .int (Int32.ofNat bs.length)] 6 = mkF mI 0 #[.val (.ref t), .val (.int (0 : Int32)), .val (.int (0 : Int32)), .val (.int (Int32.ofNat bs.length)), .unset, .unset] [] := by first | (simp [entryFrame, mkF, argsToLocals, Value.category]; done) | rfl
theorem pd_ioch : parseMethodDescriptor "([BIII)I" = some ⟨[(.array .byte), .int, .int, .int], some .int⟩ := by decide +kernel
set_option maxRecDepth 65536 in
set_option maxHeartbeats 4000000 in
theorem ct_ioch {a0 : Array Value} {Z : State} (hw : ∀ d ∈ tables_1, d.before a0 Z = true) (l : Launch) (nar kn : Bool) (hnr : nar = false) (h0 : Heap) (t : Addr) (bs : List Int32) (Ft : Ar Z h0 t .byte (bs.map Value.int)) (hno : ∀ y ∈ bs, ¬ y = b8 0) :
    Ct l Z EL1 (⟨"java/lang/StringLatin1", "indexOfChar", "([BIII)I"⟩ : MethodName) jdk_43_method_23_code 6 (Option.some Jvm.ClassFile.FieldType.int) ({ frames := 0, cells := 0, slots := 0, locals := 0 } : Room) #[.ref t, .int (0 : Int32), .int (0 : Int32), .int (Int32.ofNat bs.length)] h0 [] nar kn (fun v h sn => v = some (.int (-1)) ∧ sn = [] ∧ h = h0) := by
  refine Ct.intro (plainFor_of_name pn_java_lang_StringLatin1) (ew hw) (ef_ioch t bs) ?_
  intro x hl hn0 hkn hsf hh H0
  have hnar : x.nar = false := hn0.trans hnr
  have H0 : Hr x b_ioch Z EL1 0 0 h0 [] 0 #[.val (.ref t), .val (.int (0 : Int32)), .val (.int (0 : Int32)), .val (.int (Int32.ofNat bs.length)), .unset, .unset] [] := H0
  have hlen : bs.length < 2147483648 := by simpa using Ft.len
  have H1 : Hr x b_ioch Z EL1 0 0 h0 [] 1 #[.val (.ref t), .val (.int (0 : Int32)), .val (.int (0 : Int32)), .val (.int (Int32.ofNat bs.length)), .unset, .unset] [.int (0 : Int32)] := H0.iloadN d_ioch_0
  have H2 : Hr x b_ioch Z EL1 0 0 h0 [] 2 #[.val (.ref t), .val (.int (0 : Int32)), .val (.int (0 : Int32)), .val (.int (Int32.ofNat bs.length)), .unset, .unset] [.int (b8 0)] := H1.i2b d_ioch_1
  have H3 : Hr x b_ioch Z EL1 0 0 h0 [] 4 #[.val (.ref t), .val (.int (0 : Int32)), .val (.int (0 : Int32)), .val (.int (Int32.ofNat bs.length)), .val (.int (b8 0)), .unset] [] := H2.istore d_ioch_2
  have H4 : Hr x b_ioch Z EL1 0 0 h0 [] 5 #[.val (.ref t), .val (.int (0 : Int32)), .val (.int (0 : Int32)), .val (.int (Int32.ofNat bs.length)), .val (.int (b8 0)), .unset] [.int (0 : Int32)] := H3.iloadN d_ioch_4
  have H5 : Hr x b_ioch Z EL1 0 0 h0 [] 7 #[.val (.ref t), .val (.int (0 : Int32)), .val (.int (0 : Int32)), .val (.int (Int32.ofNat bs.length)), .val (.int (b8 0)), .val (.int (0 : Int32))] [] := H4.istore d_ioch_5
  have loop : ∀ (k i : Nat), i + k = bs.length → Hr x b_ioch Z EL1 0 0 h0 [] 7 #[.val (.ref t), .val (.int (0 : Int32)), .val (.int (0 : Int32)), .val (.int (Int32.ofNat bs.length)), .val (.int (b8 0)), .val (.int (Int32.ofNat i))] [] → Ends x b_ioch Z EL1 (fun v h sn => v = some (.int (-1)) ∧ sn = [] ∧ h = h0) := by
    intro k
    induction k with
    | zero =>
      intro i hi H
      obtain rfl : i = bs.length := by omega
      have H6 : Hr x b_ioch Z EL1 0 0 h0 [] 9 #[.val (.ref t), .val (.int (0 : Int32)), .val (.int (0 : Int32)), .val (.int (Int32.ofNat bs.length)), .val (.int (b8 0)), .val (.int (Int32.ofNat bs.length))] [.int (Int32.ofNat bs.length)] := H.iload d_ioch_7
      have H7 : Hr x b_ioch Z EL1 0 0 h0 [] 10 #[.val (.ref t), .val (.int (0 : Int32)), .val (.int (0 : Int32)), .val (.int (Int32.ofNat bs.length)), .val (.int (b8 0)), .val (.int (Int32.ofNat bs.length))] [.int (Int32.ofNat bs.length), .int (Int32.ofNat bs.length)] := H6.iloadN d_ioch_9
      have H8 : Hr x b_ioch Z EL1 0 0 h0 [] 31 #[.val (.ref t), .val (.int (0 : Int32)), .val (.int (0 : Int32)), .val (.int (Int32.ofNat bs.length)), .val (.int (b8 0)), .val (.int (Int32.ofNat bs.length))] [] := H7.icmpT d_ioch_10 (XT.ii_ge_t (by simp))
      have H9 : Hr x b_ioch Z EL1 0 0 h0 [] 32 #[.val (.ref t), .val (.int (0 : Int32)), .val (.int (0 : Int32)), .val (.int (Int32.ofNat bs.length)), .val (.int (b8 0)), .val (.int (Int32.ofNat bs.length))] [.int (-1 : Int32)] := H8.iconst d_ioch_31
      exact H9.finI d_ioch_32 ⟨rfl, rfl, rfl⟩ sub0
    | succ k ih =>
      intro i hi H
      have hi1 : i < bs.length := by omega
      have H10 : Hr x b_ioch Z EL1 0 0 h0 [] 9 #[.val (.ref t), .val (.int (0 : Int32)), .val (.int (0 : Int32)), .val (.int (Int32.ofNat bs.length)), .val (.int (b8 0)), .val (.int (Int32.ofNat i))] [.int (Int32.ofNat i)] := H.iload d_ioch_7
      have H11 : Hr x b_ioch Z EL1 0 0 h0 [] 10 #[.val (.ref t), .val (.int (0 : Int32)), .val (.int (0 : Int32)), .val (.int (Int32.ofNat bs.length)), .val (.int (b8 0)), .val (.int (Int32.ofNat i))] [.int (Int32.ofNat bs.length), .int (Int32.ofNat i)] := H10.iloadN d_ioch_9
      have H12 : Hr x b_ioch Z EL1 0 0 h0 [] 13 #[.val (.ref t), .val (.int (0 : Int32)), .val (.int (0 : Int32)), .val (.int (Int32.ofNat bs.length)), .val (.int (b8 0)), .val (.int (Int32.ofNat i))] [] := H11.icmpF d_ioch_10 (XT.ii_ge_f (lt_ofNat hi1 hlen))
      have H13 : Hr x b_ioch Z EL1 0 0 h0 [] 14 #[.val (.ref t), .val (.int (0 : Int32)), .val (.int (0 : Int32)), .val (.int (Int32.ofNat bs.length)), .val (.int (b8 0)), .val (.int (Int32.ofNat i))] [.ref t] := H12.aloadN d_ioch_13
      have H14 : Hr x b_ioch Z EL1 0 0 h0 [] 16 #[.val (.ref t), .val (.int (0 : Int32)), .val (.int (0 : Int32)), .val (.int (Int32.ofNat bs.length)), .val (.int (b8 0)), .val (.int (Int32.ofNat i))] [.int (Int32.ofNat i), .ref t] := H13.iload d_ioch_14
      have H15 : Hr x b_ioch Z EL1 0 0 h0 [] 17 #[.val (.ref t), .val (.int (0 : Int32)), .val (.int (0 : Int32)), .val (.int (Int32.ofNat bs.length)), .val (.int (b8 0)), .val (.int (Int32.ofNat i))] [.int (bs[i])] := H14.baload Ft d_ioch_16 (i := i) rfl (by simp [hi1])
      have H16 : Hr x b_ioch Z EL1 0 0 h0 [] 19 #[.val (.ref t), .val (.int (0 : Int32)), .val (.int (0 : Int32)), .val (.int (Int32.ofNat bs.length)), .val (.int (b8 0)), .val (.int (Int32.ofNat i))] [.int (b8 0), .int (bs[i])] := H15.iload d_ioch_17
      have H17 : Hr x b_ioch Z EL1 0 0 h0 [] 25 #[.val (.ref t), .val (.int (0 : Int32)), .val (.int (0 : Int32)), .val (.int (Int32.ofNat bs.length)), .val (.int (b8 0)), .val (.int (Int32.ofNat i))] [] := H16.icmpT d_ioch_19 (XT.ii_ne_t (hno _ (List.getElem_mem hi1)))
      have H18 : Hr x b_ioch Z EL1 0 0 h0 [] 28 #[.val (.ref t), .val (.int (0 : Int32)), .val (.int (0 : Int32)), .val (.int (Int32.ofNat bs.length)), .val (.int (b8 0)), .val (.int (Int32.ofNat (i + 1)))] [] := H17.iinc d_ioch_25 (v := (Int32.ofNat (i + 1))) (hv := (inc_ofNat i).symm)
      have H19 : Hr x b_ioch Z EL1 0 0 h0 [] 7 #[.val (.ref t), .val (.int (0 : Int32)), .val (.int (0 : Int32)), .val (.int (Int32.ofNat bs.length)), .val (.int (b8 0)), .val (.int (Int32.ofNat (i + 1)))] [] := H18.goto d_ioch_28
      exact ih (i + 1) (by omega) H19
  exact loop bs.length 0 (by omega) H5
def b_lidx : Bx := (({ frames := 1, cells := 0, slots := 0, locals := 17 } : Room), (⟨"java/lang/StringLatin1", "indexOf", "([BIII)I"⟩ : MethodName), jdk_43_method_22_code, 4, (Option.some Jvm.ClassFile.FieldType.int))
theorem ef_lidx (t : Addr) (bs : List Int32) (mI : MethodId) : entryFrame mI #[.ref t, .int (0 : Int32), .int (0 : Int32), .int (Int32.ofNat bs.length)] 4 = mkF mI 0 #[.val (.ref t), .val (.int (0 : Int32)), .val (.int (0 : Int32)), .val (.int (Int32.ofNat bs.length))] [] := by first | (simp [entryFrame, mkF, argsToLocals, Value.category]; done) | rfl
theorem pd_lidx : parseMethodDescriptor "([BIII)I" = some ⟨[(.array .byte), .int, .int, .int], some .int⟩ := by decide +kernel
set_option maxRecDepth 65536 in
set_option maxHeartbeats 4000000 in
theorem ct_lidx {a0 : Array Value} {Z : State} (hw : ∀ d ∈ tables_1, d.before a0 Z = true) (l : Launch) (nar kn : Bool) (hnr : nar = false) (h0 : Heap) (t : Addr) (bs : List Int32) (Ft : Ar Z h0 t .byte (bs.map Value.int)) (hno : ∀ y ∈ bs, ¬ y = b8 0) (hpos : 0 < bs.length) :
    Ct l Z EL1 (⟨"java/lang/StringLatin1", "indexOf", "([BIII)I"⟩ : MethodName) jdk_43_method_22_code 4 (Option.some Jvm.ClassFile.FieldType.int) ({ frames := 1, cells := 0, slots := 0, locals := 17 } : Room) #[.ref t, .int (0 : Int32), .int (0 : Int32), .int (Int32.ofNat bs.length)] h0 [] nar kn (fun v h sn => v = some (.int (-1)) ∧ sn = [] ∧ h = h0) := by
  refine Ct.intro (plainFor_of_name pn_java_lang_StringLatin1) (ew hw) (ef_lidx t bs) ?_
  intro x hl hn0 hkn hsf hh H0
  have hnar : x.nar = false := hn0.trans hnr
  have H0 : Hr x b_lidx Z EL1 0 0 h0 [] 0 #[.val (.ref t), .val (.int (0 : Int32)), .val (.int (0 : Int32)), .val (.int (Int32.ofNat bs.length))] [] := H0
  have hlen : bs.length < 2147483648 := by simpa using Ft.len
  have H1 : Hr x b_lidx Z EL1 0 0 h0 [] 1 #[.val (.ref t), .val (.int (0 : Int32)), .val (.int (0 : Int32)), .val (.int (Int32.ofNat bs.length))] [.int (0 : Int32)] := H0.iloadN d_lidx_0
  obtain ⟨_, h1, _, ⟨rfl, rfl, e1⟩, K1, H2⟩ := H1.callS (argsL := [.int (0 : Int32)]) (rest := []) (Wr := 0) (ct_cenI hw x.l x.nar x.kn hnar h0 ) sub0 (w165 hw) (w166 hw) (w163 hw) (w167 hw) d_lidx_1 pd_cenI rfl (hf := by first | decide | (simp [b_lidx, Bx.R]; done) | (simp [b_lidx, Bx.R]; omega)) (hl := by first | decide | (simp [b_lidx, Bx.R]; done) | (simp [b_lidx, Bx.R]; omega)) (hc := by first | decide | (simp [b_lidx, Bx.R]; done) | (simp [b_lidx, Bx.R]; omega)) (hs := by first | decide | (simp [b_lidx, Bx.R]; done) | (simp [b_lidx, Bx.R]; omega))
  rw [e1] at H2
  have H2 : Hr x b_lidx Z EL1 0 0 h0 [] 4 #[.val (.ref t), .val (.int (0 : Int32)), .val (.int (0 : Int32)), .val (.int (Int32.ofNat bs.length))] [.int (1 : Int32)] := H2
  have H3 : Hr x b_lidx Z EL1 0 0 h0 [] 9 #[.val (.ref t), .val (.int (0 : Int32)), .val (.int (0 : Int32)), .val (.int (Int32.ofNat bs.length))] [] := H2.ifT d_lidx_4 (XT.i0_ne_t (by decide))
  have H4 : Hr x b_lidx Z EL1 0 0 h0 [] 10 #[.val (.ref t), .val (.int (0 : Int32)), .val (.int (0 : Int32)), .val (.int (Int32.ofNat bs.length))] [.int (0 : Int32)] := H3.iloadN d_lidx_9
  have H5 : Hr x b_lidx Z EL1 0 0 h0 [] 11 #[.val (.ref t), .val (.int (0 : Int32)), .val (.int (0 : Int32)), .val (.int (Int32.ofNat bs.length))] [.int (0 : Int32), .int (0 : Int32)] := H4.iconst d_lidx_10
  obtain ⟨_, h2, _, ⟨rfl, rfl, e2⟩, K2, H6⟩ := H5.callS (argsL := [.int (0 : Int32), .int (0 : Int32)]) (rest := []) (Wr := 0) (ct_mmax hw x.l x.nar x.kn hnar h0 0 0 0 (by decide)) sub0 (w168 hw) (w7 hw) (w8 hw) (w9 hw) d_lidx_11 pd_mmax rfl (hf := by first | decide | (simp [b_lidx, Bx.R]; done) | (simp [b_lidx, Bx.R]; omega)) (hl := by first | decide | (simp [b_lidx, Bx.R]; done) | (simp [b_lidx, Bx.R]; omega)) (hc := by first | decide | (simp [b_lidx, Bx.R]; done) | (simp [b_lidx, Bx.R]; omega)) (hs := by first | decide | (simp [b_lidx, Bx.R]; done) | (simp [b_lidx, Bx.R]; omega))
  rw [e2] at H6
  have H6 : Hr x b_lidx Z EL1 0 0 h0 [] 14 #[.val (.ref t), .val (.int (0 : Int32)), .val (.int (0 : Int32)), .val (.int (Int32.ofNat bs.length))] [.int (0 : Int32)] := H6
  have H7 : Hr x b_lidx Z EL1 0 0 h0 [] 15 #[.val (.ref t), .val (.int (0 : Int32)), .val (.int (0 : Int32)), .val (.int (Int32.ofNat bs.length))] [] := H6.istoreN d_lidx_14
  have H8 : Hr x b_lidx Z EL1 0 0 h0 [] 16 #[.val (.ref t), .val (.int (0 : Int32)), .val (.int (0 : Int32)), .val (.int (Int32.ofNat bs.length))] [.int (Int32.ofNat bs.length)] := H7.iloadN d_lidx_15
  have H9 : Hr x b_lidx Z EL1 0 0 h0 [] 17 #[.val (.ref t), .val (.int (0 : Int32)), .val (.int (0 : Int32)), .val (.int (Int32.ofNat bs.length))] [.ref t, .int (Int32.ofNat bs.length)] := H8.aloadN d_lidx_16
  have H10 : Hr x b_lidx Z EL1 0 0 h0 [] 18 #[.val (.ref t), .val (.int (0 : Int32)), .val (.int (0 : Int32)), .val (.int (Int32.ofNat bs.length))] [.int (Int32.ofNat bs.length), .int (Int32.ofNat bs.length)] := H9.arraylength Ft d_lidx_17 (hn := (by simp))
  obtain ⟨_, h3, _, ⟨rfl, rfl, e3⟩, K3, H11⟩ := H10.callS (argsL := [.int (Int32.ofNat bs.length), .int (Int32.ofNat bs.length)]) (rest := []) (Wr := 0) (ct_mmin hw x.l x.nar x.kn hnar h0 (Int32.ofNat bs.length) (Int32.ofNat bs.length) (Int32.ofNat bs.length) (by simp)) sub0 (w169 hw) (w118 hw) (w8 hw) (w119 hw) d_lidx_18 pd_mmin rfl (hf := by first | decide | (simp [b_lidx, Bx.R]; done) | (simp [b_lidx, Bx.R]; omega)) (hl := by first | decide | (simp [b_lidx, Bx.R]; done) | (simp [b_lidx, Bx.R]; omega)) (hc := by first | decide | (simp [b_lidx, Bx.R]; done) | (simp [b_lidx, Bx.R]; omega)) (hs := by first | decide | (simp [b_lidx, Bx.R]; done) | (simp [b_lidx, Bx.R]; omega))
  rw [e3] at H11
  have H11 : Hr x b_lidx Z EL1 0 0 h0 [] 21 #[.val (.ref t), .val (.int (0 : Int32)), .val (.int (0 : Int32)), .val (.int (Int32.ofNat bs.length))] [.int (Int32.ofNat bs.length)] := H11
  have H12 : Hr x b_lidx Z EL1 0 0 h0 [] 22 #[.val (.ref t), .val (.int (0 : Int32)), .val (.int (0 : Int32)), .val (.int (Int32.ofNat bs.length))] [] := H11.istoreN d_lidx_21
  have H13 : Hr x b_lidx Z EL1 0 0 h0 [] 23 #[.val (.ref t), .val (.int (0 : Int32)), .val (.int (0 : Int32)), .val (.int (Int32.ofNat bs.length))] [.int (0 : Int32)] := H12.iloadN d_lidx_22
  have H14 : Hr x b_lidx Z EL1 0 0 h0 [] 24 #[.val (.ref t), .val (.int (0 : Int32)), .val (.int (0 : Int32)), .val (.int (Int32.ofNat bs.length))] [.int (Int32.ofNat bs.length), .int (0 : Int32)] := H13.iloadN d_lidx_23
  have H15 : Hr x b_lidx Z EL1 0 0 h0 [] 29 #[.val (.ref t), .val (.int (0 : Int32)), .val (.int (0 : Int32)), .val (.int (Int32.ofNat bs.length))] [] := H14.icmpT d_lidx_24 (XT.ii_lt_t (lt_ofNat (m := 0) hpos hlen))
  have H16 : Hr x b_lidx Z EL1 0 0 h0 [] 30 #[.val (.ref t), .val (.int (0 : Int32)), .val (.int (0 : Int32)), .val (.int (Int32.ofNat bs.length))] [.ref t] := H15.aloadN d_lidx_29
  have H17 : Hr x b_lidx Z EL1 0 0 h0 [] 31 #[.val (.ref t), .val (.int (0 : Int32)), .val (.int (0 : Int32)), .val (.int (Int32.ofNat bs.length))] [.int (0 : Int32), .ref t] := H16.iloadN d_lidx_30
  have H18 : Hr x b_lidx Z EL1 0 0 h0 [] 32 #[.val (.ref t), .val (.int (0 : Int32)), .val (.int (0 : Int32)), .val (.int (Int32.ofNat bs.length))] [.int (0 : Int32), .int (0 : Int32), .ref t] := H17.iloadN d_lidx_31
  have H19 : Hr x b_lidx Z EL1 0 0 h0 [] 33 #[.val (.ref t), .val (.int (0 : Int32)), .val (.int (0 : Int32)), .val (.int (Int32.ofNat bs.length))] [.int (Int32.ofNat bs.length), .int (0 : Int32), .int (0 : Int32), .ref t] := H18.iloadN d_lidx_32
  obtain ⟨_, h4, _, ⟨rfl, rfl, e4⟩, K4, H20⟩ := H19.callS (argsL := [.ref t, .int (0 : Int32), .int (0 : Int32), .int (Int32.ofNat bs.length)]) (rest := []) (Wr := 0) (ct_ioch hw x.l x.nar x.kn hnar h0 t bs Ft hno) sub0 (w170 hw) (w171 hw) (w163 hw) (w172 hw) d_lidx_33 pd_ioch rfl (hf := by first | decide | (simp [b_lidx, Bx.R]; done) | (simp [b_lidx, Bx.R]; omega)) (hl := by first | decide | (simp [b_lidx, Bx.R]; done) | (simp [b_lidx, Bx.R]; omega)) (hc := by first | decide | (simp [b_lidx, Bx.R]; done) | (simp [b_lidx, Bx.R]; omega)) (hs := by first | decide | (simp [b_lidx, Bx.R]; done) | (simp [b_lidx, Bx.R]; omega))
  rw [e4] at H20
  have H20 : Hr x b_lidx Z EL1 0 0 h0 [] 36 #[.val (.ref t), .val (.int (0 : Int32)), .val (.int (0 : Int32)), .val (.int (Int32.ofNat bs.length))] [.int (-1 : Int32)] := H20
  exact H20.finI d_lidx_36 ⟨rfl, rfl, rfl⟩ sub0
def b_iocu : Bx := (({ frames := 1, cells := 0, slots := 0, locals := 13 } : Room), (⟨"java/lang/StringUTF16", "indexOfCharUnsafe", "([BIII)I"⟩ : MethodName), jdk_52_method_48_code, 5, (Option.some Jvm.ClassFile.FieldType.int))
theorem ef_iocu (t : Addr) (cs : List Int32) (mI : MethodId) : entryFrame mI #[.ref t, .int (0 : Int32), .int (0 : Int32), .int (Int32.ofNat cs.length)] 5 = mkF mI 0 #[.val (.ref t), .val (.int (0 : Int32)), .val (.int (0 : Int32)), .val (.int (Int32.ofNat cs.length)), .unset] [] := by first | (simp [entryFrame, mkF, argsToLocals, Value.category]; done) | rfl
theorem pd_iocu : parseMethodDescriptor "([BIII)I" = some ⟨[(.array .byte), .int, .int, .int], some .int⟩ := by decide +kernel
set_option maxRecDepth 65536 in
set_option maxHeartbeats 4000000 in
theorem ct_iocu {a0 : Array Value} {Z : State} (hw : ∀ d ∈ tables_1, d.before a0 Z = true) (l : Launch) (nar kn : Bool) (hnr : nar = false) (h0 : Heap) (t : Addr) (cs : List Int32) (Ft : Ar Z h0 t .byte (u16 cs)) (hcap : cs.length ≤ 4) (hpos : 0 < cs.length) (hc : CHL cs) (hnz : ∀ c ∈ cs, ¬ c = 0) (Sd : Sta Z Z.heap "java/lang/StringUTF16" "$assertionsDisabled" "Z" (.int 1)) (Sh : Sta Z Z.heap "java/lang/StringUTF16" "HI_BYTE_SHIFT" "I" (.int 0)) (Sl : Sta Z Z.heap "java/lang/StringUTF16" "LO_BYTE_SHIFT" "I" (.int 8)) :
    Ct l Z EL1 (⟨"java/lang/StringUTF16", "indexOfCharUnsafe", "([BIII)I"⟩ : MethodName) jdk_52_method_48_code 5 (Option.some Jvm.ClassFile.FieldType.int) ({ frames := 1, cells := 0, slots := 0, locals := 13 } : Room) #[.ref t, .int (0 : Int32), .int (0 : Int32), .int (Int32.ofNat cs.length)] h0 [] nar kn (fun v h sn => v = some (.int (-1)) ∧ sn = [] ∧ h = h0) := by
  refine Ct.intro (plainFor_of_name pn_java_lang_StringUTF16) (ew hw) (ef_iocu t cs) ?_
  intro x hl hn0 hkn hsf hh H0
  have hnar : x.nar = false := hn0.trans hnr
  have H0 : Hr x b_iocu Z EL1 0 0 h0 [] 0 #[.val (.ref t), .val (.int (0 : Int32)), .val (.int (0 : Int32)), .val (.int (Int32.ofNat cs.length)), .unset] [] := H0
  have H1 : Hr x b_iocu Z EL1 0 0 h0 [] 1 #[.val (.ref t), .val (.int (0 : Int32)), .val (.int (0 : Int32)), .val (.int (Int32.ofNat cs.length)), .unset] [.int (0 : Int32)] := H0.iloadN d_iocu_0
  have H2 : Hr x b_iocu Z EL1 0 0 h0 [] 3 #[.val (.ref t), .val (.int (0 : Int32)), .val (.int (0 : Int32)), .val (.int (Int32.ofNat cs.length)), .val (.int (0 : Int32))] [] := H1.istore d_iocu_1
  have loop : ∀ (k i : Nat), i + k = cs.length → Hr x b_iocu Z EL1 0 0 h0 [] 3 #[.val (.ref t), .val (.int (0 : Int32)), .val (.int (0 : Int32)), .val (.int (Int32.ofNat cs.length)), .val (.int (Int32.ofNat i))] [] → Ends x b_iocu Z EL1 (fun v h sn => v = some (.int (-1)) ∧ sn = [] ∧ h = h0) := by
    intro k
    induction k with
    | zero =>
      intro i hi H
      obtain rfl : i = cs.length := by omega
      have H3 : Hr x b_iocu Z EL1 0 0 h0 [] 5 #[.val (.ref t), .val (.int (0 : Int32)), .val (.int (0 : Int32)), .val (.int (Int32.ofNat cs.length)), .val (.int (Int32.ofNat cs.length))] [.int (Int32.ofNat cs.length)] := H.iload d_iocu_3
      have H4 : Hr x b_iocu Z EL1 0 0 h0 [] 6 #[.val (.ref t), .val (.int (0 : Int32)), .val (.int (0 : Int32)), .val (.int (Int32.ofNat cs.length)), .val (.int (Int32.ofNat cs.length))] [.int (Int32.ofNat cs.length), .int (Int32.ofNat cs.length)] := H3.iloadN d_iocu_5
      have H5 : Hr x b_iocu Z EL1 0 0 h0 [] 28 #[.val (.ref t), .val (.int (0 : Int32)), .val (.int (0 : Int32)), .val (.int (Int32.ofNat cs.length)), .val (.int (Int32.ofNat cs.length))] [] := H4.icmpT d_iocu_6 (XT.ii_ge_t (by simp))
      have H6 : Hr x b_iocu Z EL1 0 0 h0 [] 29 #[.val (.ref t), .val (.int (0 : Int32)), .val (.int (0 : Int32)), .val (.int (Int32.ofNat cs.length)), .val (.int (Int32.ofNat cs.length))] [.int (-1 : Int32)] := H5.iconst d_iocu_28
      exact H6.finI d_iocu_29 ⟨rfl, rfl, rfl⟩ sub0
    | succ k ih =>
      intro i hi H
      have hi1 : i < cs.length := by omega
      have H7 : Hr x b_iocu Z EL1 0 0 h0 [] 5 #[.val (.ref t), .val (.int (0 : Int32)), .val (.int (0 : Int32)), .val (.int (Int32.ofNat cs.length)), .val (.int (Int32.ofNat i))] [.int (Int32.ofNat i)] := H.iload d_iocu_3
      have H8 : Hr x b_iocu Z EL1 0 0 h0 [] 6 #[.val (.ref t), .val (.int (0 : Int32)), .val (.int (0 : Int32)), .val (.int (Int32.ofNat cs.length)), .val (.int (Int32.ofNat i))] [.int (Int32.ofNat cs.length), .int (Int32.ofNat i)] := H7.iloadN d_iocu_5
      have H9 : Hr x b_iocu Z EL1 0 0 h0 [] 9 #[.val (.ref t), .val (.int (0 : Int32)), .val (.int (0 : Int32)), .val (.int (Int32.ofNat cs.length)), .val (.int (Int32.ofNat i))] [] := H8.icmpF d_iocu_6 (XT.ii_ge_f (lt_ofNat hi1 (by omega)))
      have H10 : Hr x b_iocu Z EL1 0 0 h0 [] 10 #[.val (.ref t), .val (.int (0 : Int32)), .val (.int (0 : Int32)), .val (.int (Int32.ofNat cs.length)), .val (.int (Int32.ofNat i))] [.ref t] := H9.aloadN d_iocu_9
      have H11 : Hr x b_iocu Z EL1 0 0 h0 [] 12 #[.val (.ref t), .val (.int (0 : Int32)), .val (.int (0 : Int32)), .val (.int (Int32.ofNat cs.length)), .val (.int (Int32.ofNat i))] [.int (Int32.ofNat i), .ref t] := H10.iload d_iocu_10
      obtain ⟨_, h1, _, ⟨rfl, rfl, e1⟩, K1, H12⟩ := H11.callS (argsL := [.ref t, .int (Int32.ofNat i)]) (rest := []) (Wr := 0) (ct_getc hw x.l x.nar x.kn hnar h0 t i cs hi1 Ft hc Sd Sh Sl) sub0 (w48 hw) (w49 hw) (w26 hw) (w50 hw) d_iocu_12 pd_getc rfl (hf := by first | decide | (simp [b_iocu, Bx.R]; done) | (simp [b_iocu, Bx.R]; omega)) (hl := by first | decide | (simp [b_iocu, Bx.R]; done) | (simp [b_iocu, Bx.R]; omega)) (hc := by first | decide | (simp [b_iocu, Bx.R]; done) | (simp [b_iocu, Bx.R]; omega)) (hs := by first | decide | (simp [b_iocu, Bx.R]; done) | (simp [b_iocu, Bx.R]; omega))
      rw [e1] at H12
      have H12 : Hr x b_iocu Z EL1 0 0 h0 [] 15 #[.val (.ref t), .val (.int (0 : Int32)), .val (.int (0 : Int32)), .val (.int (Int32.ofNat cs.length)), .val (.int (Int32.ofNat i))] [.int (cs[i])] := H12
      have H13 : Hr x b_iocu Z EL1 0 0 h0 [] 16 #[.val (.ref t), .val (.int (0 : Int32)), .val (.int (0 : Int32)), .val (.int (Int32.ofNat cs.length)), .val (.int (Int32.ofNat i))] [.int (0 : Int32), .int (cs[i])] := H12.iloadN d_iocu_15
      have H14 : Hr x b_iocu Z EL1 0 0 h0 [] 22 #[.val (.ref t), .val (.int (0 : Int32)), .val (.int (0 : Int32)), .val (.int (Int32.ofNat cs.length)), .val (.int (Int32.ofNat i))] [] := H13.icmpT d_iocu_16 (XT.ii_ne_t (hnz _ (List.getElem_mem hi1)))
      have H15 : Hr x b_iocu Z EL1 0 0 h0 [] 25 #[.val (.ref t), .val (.int (0 : Int32)), .val (.int (0 : Int32)), .val (.int (Int32.ofNat cs.length)), .val (.int (Int32.ofNat (i + 1)))] [] := H14.iinc d_iocu_22 (v := (Int32.ofNat (i + 1))) (hv := (inc_ofNat i).symm)
      have H16 : Hr x b_iocu Z EL1 0 0 h0 [] 3 #[.val (.ref t), .val (.int (0 : Int32)), .val (.int (0 : Int32)), .val (.int (Int32.ofNat cs.length)), .val (.int (Int32.ofNat (i + 1)))] [] := H15.goto d_iocu_25
      exact ih (i + 1) (by omega) H16
  exact loop cs.length 0 (by omega) H2
def b_uioc : Bx := (({ frames := 3, cells := 0, slots := 0, locals := 43 } : Room), (⟨"java/lang/StringUTF16", "indexOfChar", "([BIII)I"⟩ : MethodName), jdk_52_method_47_code, 4, (Option.some Jvm.ClassFile.FieldType.int))
theorem ef_uioc (t : Addr) (cs : List Int32) (mI : MethodId) : entryFrame mI #[.ref t, .int (0 : Int32), .int (0 : Int32), .int (Int32.ofNat cs.length)] 4 = mkF mI 0 #[.val (.ref t), .val (.int (0 : Int32)), .val (.int (0 : Int32)), .val (.int (Int32.ofNat cs.length))] [] := by first | (simp [entryFrame, mkF, argsToLocals, Value.category]; done) | rfl
theorem pd_uioc : parseMethodDescriptor "([BIII)I" = some ⟨[(.array .byte), .int, .int, .int], some .int⟩ := by decide +kernel
set_option maxRecDepth 65536 in
set_option maxHeartbeats 4000000 in
theorem ct_uioc {a0 : Array Value} {Z : State} (hw : ∀ d ∈ tables_1, d.before a0 Z = true) (l : Launch) (nar kn : Bool) (hnr : nar = false) (h0 : Heap) (t : Addr) (cs : List Int32) (Ft : Ar Z h0 t .byte (u16 cs)) (hcap : cs.length ≤ 4) (hpos : 0 < cs.length) (hc : CHL cs) (hnz : ∀ c ∈ cs, ¬ c = 0) (Sd : Sta Z Z.heap "java/lang/StringUTF16" "$assertionsDisabled" "Z" (.int 1)) (Sh : Sta Z Z.heap "java/lang/StringUTF16" "HI_BYTE_SHIFT" "I" (.int 0)) (Sl : Sta Z Z.heap "java/lang/StringUTF16" "LO_BYTE_SHIFT" "I" (.int 8)) (f : Value) (hfr : f.isRef = true) (P : Sta Z Z.heap "jdk/internal/util/Preconditions" "SIOOBE_FORMATTER" "Ljava/util/function/BiFunction;" f) :
    Ct l Z EL1 (⟨"java/lang/StringUTF16", "indexOfChar", "([BIII)I"⟩ : MethodName) jdk_52_method_47_code 4 (Option.some Jvm.ClassFile.FieldType.int) ({ frames := 3, cells := 0, slots := 0, locals := 43 } : Room) #[.ref t, .int (0 : Int32), .int (0 : Int32), .int (Int32.ofNat cs.length)] h0 [] nar kn (fun v h sn => v = some (.int (-1)) ∧ sn = [] ∧ h = h0) := by
  refine Ct.intro (plainFor_of_name pn_java_lang_StringUTF16) (ew hw) (ef_uioc t cs) ?_
  intro x hl hn0 hkn hsf hh H0
  have hnar : x.nar = false := hn0.trans hnr
  have H0 : Hr x b_uioc Z EL1 0 0 h0 [] 0 #[.val (.ref t), .val (.int (0 : Int32)), .val (.int (0 : Int32)), .val (.int (Int32.ofNat cs.length))] [] := H0
  have H1 : Hr x b_uioc Z EL1 0 0 h0 [] 1 #[.val (.ref t), .val (.int (0 : Int32)), .val (.int (0 : Int32)), .val (.int (Int32.ofNat cs.length))] [.int (0 : Int32)] := H0.iloadN d_uioc_0
  have H2 : Hr x b_uioc Z EL1 0 0 h0 [] 2 #[.val (.ref t), .val (.int (0 : Int32)), .val (.int (0 : Int32)), .val (.int (Int32.ofNat cs.length))] [.int (Int32.ofNat cs.length), .int (0 : Int32)] := H1.iloadN d_uioc_1
  have H3 : Hr x b_uioc Z EL1 0 0 h0 [] 3 #[.val (.ref t), .val (.int (0 : Int32)), .val (.int (0 : Int32)), .val (.int (Int32.ofNat cs.length))] [.ref t, .int (Int32.ofNat cs.length), .int (0 : Int32)] := H2.aloadN d_uioc_2
  obtain ⟨_, h1, _, ⟨rfl, rfl, e1⟩, K1, H4⟩ := H3.callS (argsL := [.int (0 : Int32), .int (Int32.ofNat cs.length), .ref t]) (rest := []) (Wr := 0) (ct_ubbe hw x.l x.nar x.kn hnar h0 t cs Ft hcap f hfr P) sub0 (w124 hw) (w125 hw) (w26 hw) (w126 hw) d_uioc_3 pd_ubbe rfl (hf := by first | decide | (simp [b_uioc, Bx.R]; done) | (simp [b_uioc, Bx.R]; omega)) (hl := by first | decide | (simp [b_uioc, Bx.R]; done) | (simp [b_uioc, Bx.R]; omega)) (hc := by first | decide | (simp [b_uioc, Bx.R]; done) | (simp [b_uioc, Bx.R]; omega)) (hs := by first | decide | (simp [b_uioc, Bx.R]; done) | (simp [b_uioc, Bx.R]; omega))
  rw [e1] at H4
  have H4 : Hr x b_uioc Z EL1 0 0 h0 [] 6 #[.val (.ref t), .val (.int (0 : Int32)), .val (.int (0 : Int32)), .val (.int (Int32.ofNat cs.length))] [] := H4
  have H5 : Hr x b_uioc Z EL1 0 0 h0 [] 7 #[.val (.ref t), .val (.int (0 : Int32)), .val (.int (0 : Int32)), .val (.int (Int32.ofNat cs.length))] [.ref t] := H4.aloadN d_uioc_6
  have H6 : Hr x b_uioc Z EL1 0 0 h0 [] 8 #[.val (.ref t), .val (.int (0 : Int32)), .val (.int (0 : Int32)), .val (.int (Int32.ofNat cs.length))] [.int (0 : Int32), .ref t] := H5.iloadN d_uioc_7
  have H7 : Hr x b_uioc Z EL1 0 0 h0 [] 9 #[.val (.ref t), .val (.int (0 : Int32)), .val (.int (0 : Int32)), .val (.int (Int32.ofNat cs.length))] [.int (0 : Int32), .int (0 : Int32), .ref t] := H6.iloadN d_uioc_8
  have H8 : Hr x b_uioc Z EL1 0 0 h0 [] 10 #[.val (.ref t), .val (.int (0 : Int32)), .val (.int (0 : Int32)), .val (.int (Int32.ofNat cs.length))] [.int (Int32.ofNat cs.length), .int (0 : Int32), .int (0 : Int32), .ref t] := H7.iloadN d_uioc_9
  obtain ⟨_, h2, _, ⟨rfl, rfl, e2⟩, K2, H9⟩ := H8.callS (argsL := [.ref t, .int (0 : Int32), .int (0 : Int32), .int (Int32.ofNat cs.length)]) (rest := []) (Wr := 0) (ct_iocu hw x.l x.nar x.kn hnar h0 t cs Ft hcap hpos hc hnz Sd Sh Sl) sub0 (w135 hw) (w136 hw) (w26 hw) (w137 hw) d_uioc_10 pd_iocu rfl (hf := by first | decide | (simp [b_uioc, Bx.R]; done) | (simp [b_uioc, Bx.R]; omega)) (hl := by first | decide | (simp [b_uioc, Bx.R]; done) | (simp [b_uioc, Bx.R]; omega)) (hc := by first | decide | (simp [b_uioc, Bx.R]; done) | (simp [b_uioc, Bx.R]; omega)) (hs := by first | decide | (simp [b_uioc, Bx.R]; done) | (simp [b_uioc, Bx.R]; omega))
  rw [e2] at H9
  have H9 : Hr x b_uioc Z EL1 0 0 h0 [] 13 #[.val (.ref t), .val (.int (0 : Int32)), .val (.int (0 : Int32)), .val (.int (Int32.ofNat cs.length))] [.int (-1 : Int32)] := H9
  exact H9.finI d_uioc_13 ⟨rfl, rfl, rfl⟩ sub0
def b_uidx : Bx := (({ frames := 4, cells := 0, slots := 0, locals := 58 } : Room), (⟨"java/lang/StringUTF16", "indexOf", "([BIII)I"⟩ : MethodName), jdk_52_method_40_code, 4, (Option.some Jvm.ClassFile.FieldType.int))
theorem ef_uidx (t : Addr) (cs : List Int32) (mI : MethodId) : entryFrame mI #[.ref t, .int (0 : Int32), .int (0 : Int32), .int (Int32.ofNat cs.length)] 4 = mkF mI 0 #[.val (.ref t), .val (.int (0 : Int32)), .val (.int (0 : Int32)), .val (.int (Int32.ofNat cs.length))] [] := by first | (simp [entryFrame, mkF, argsToLocals, Value.category]; done) | rfl
theorem pd_uidx : parseMethodDescriptor "([BIII)I" = some ⟨[(.array .byte), .int, .int, .int], some .int⟩ := by decide +kernel
set_option maxRecDepth 65536 in
set_option maxHeartbeats 4000000 in
theorem ct_uidx {a0 : Array Value} {Z : State} (hw : ∀ d ∈ tables_1, d.before a0 Z = true) (l : Launch) (nar kn : Bool) (hnr : nar = false) (h0 : Heap) (t : Addr) (cs : List Int32) (Ft : Ar Z h0 t .byte (u16 cs)) (hcap : cs.length ≤ 4) (hpos : 0 < cs.length) (hc : CHL cs) (hnz : ∀ c ∈ cs, ¬ c = 0) (Sd : Sta Z Z.heap "java/lang/StringUTF16" "$assertionsDisabled" "Z" (.int 1)) (Sh : Sta Z Z.heap "java/lang/StringUTF16" "HI_BYTE_SHIFT" "I" (.int 0)) (Sl : Sta Z Z.heap "java/lang/StringUTF16" "LO_BYTE_SHIFT" "I" (.int 8)) (f : Value) (hfr : f.isRef = true) (P : Sta Z Z.heap "jdk/internal/util/Preconditions" "SIOOBE_FORMATTER" "Ljava/util/function/BiFunction;" f) :
    Ct l Z EL1 (⟨"java/lang/StringUTF16", "indexOf", "([BIII)I"⟩ : MethodName) jdk_52_method_40_code 4 (Option.some Jvm.ClassFile.FieldType.int) ({ frames := 4, cells := 0, slots := 0, locals := 58 } : Room) #[.ref t, .int (0 : Int32), .int (0 : Int32), .int (Int32.ofNat cs.length)] h0 [] nar kn (fun v h sn => v = some (.int (-1)) ∧ sn = [] ∧ h = h0) := by
  refine Ct.intro (plainFor_of_name pn_java_lang_StringUTF16) (ew hw) (ef_uidx t cs) ?_
  intro x hl hn0 hkn hsf hh H0
  have hnar : x.nar = false := hn0.trans hnr
  have H0 : Hr x b_uidx Z EL1 0 0 h0 [] 0 #[.val (.ref t), .val (.int (0 : Int32)), .val (.int (0 : Int32)), .val (.int (Int32.ofNat cs.length))] [] := H0
  have H1 : Hr x b_uidx Z EL1 0 0 h0 [] 1 #[.val (.ref t), .val (.int (0 : Int32)), .val (.int (0 : Int32)), .val (.int (Int32.ofNat cs.length))] [.int (0 : Int32)] := H0.iloadN d_uidx_0
  have H2 : Hr x b_uidx Z EL1 0 0 h0 [] 2 #[.val (.ref t), .val (.int (0 : Int32)), .val (.int (0 : Int32)), .val (.int (Int32.ofNat cs.length))] [.int (0 : Int32), .int (0 : Int32)] := H1.iconst d_uidx_1
  obtain ⟨_, h1, _, ⟨rfl, rfl, e1⟩, K1, H3⟩ := H2.callS (argsL := [.int (0 : Int32), .int (0 : Int32)]) (rest := []) (Wr := 0) (ct_mmax hw x.l x.nar x.kn hnar h0 0 0 0 (by decide)) sub0 (w116 hw) (w7 hw) (w8 hw) (w9 hw) d_uidx_2 pd_mmax rfl (hf := by first | decide | (simp [b_uidx, Bx.R]; done) | (simp [b_uidx, Bx.R]; omega)) (hl := by first | decide | (simp [b_uidx, Bx.R]; done) | (simp [b_uidx, Bx.R]; omega)) (hc := by first | decide | (simp [b_uidx, Bx.R]; done) | (simp [b_uidx, Bx.R]; omega)) (hs := by first | decide | (simp [b_uidx, Bx.R]; done) | (simp [b_uidx, Bx.R]; omega))
  rw [e1] at H3
  have H3 : Hr x b_uidx Z EL1 0 0 h0 [] 5 #[.val (.ref t), .val (.int (0 : Int32)), .val (.int (0 : Int32)), .val (.int (Int32.ofNat cs.length))] [.int (0 : Int32)] := H3
  have H4 : Hr x b_uidx Z EL1 0 0 h0 [] 6 #[.val (.ref t), .val (.int (0 : Int32)), .val (.int (0 : Int32)), .val (.int (Int32.ofNat cs.length))] [] := H3.istoreN d_uidx_5
  have H5 : Hr x b_uidx Z EL1 0 0 h0 [] 7 #[.val (.ref t), .val (.int (0 : Int32)), .val (.int (0 : Int32)), .val (.int (Int32.ofNat cs.length))] [.int (Int32.ofNat cs.length)] := H4.iloadN d_uidx_6
  have H6 : Hr x b_uidx Z EL1 0 0 h0 [] 8 #[.val (.ref t), .val (.int (0 : Int32)), .val (.int (0 : Int32)), .val (.int (Int32.ofNat cs.length))] [.ref t, .int (Int32.ofNat cs.length)] := H5.aloadN d_uidx_7
  have H7 : Hr x b_uidx Z EL1 0 0 h0 [] 9 #[.val (.ref t), .val (.int (0 : Int32)), .val (.int (0 : Int32)), .val (.int (Int32.ofNat cs.length))] [.int (Int32.ofNat (2 * cs.length)), .int (Int32.ofNat cs.length)] := H6.arraylength Ft d_uidx_8 (hn := (by rw [u16_len]))
  have H8 : Hr x b_uidx Z EL1 0 0 h0 [] 10 #[.val (.ref t), .val (.int (0 : Int32)), .val (.int (0 : Int32)), .val (.int (Int32.ofNat cs.length))] [.int (1 : Int32), .int (Int32.ofNat (2 * cs.length)), .int (Int32.ofNat cs.length)] := H7.iconst d_uidx_9
  have H9 : Hr x b_uidx Z EL1 0 0 h0 [] 11 #[.val (.ref t), .val (.int (0 : Int32)), .val (.int (0 : Int32)), .val (.int (Int32.ofNat cs.length))] [.int (Int32.ofNat cs.length), .int (Int32.ofNat cs.length)] := H8.ishr d_uidx_10 (hv := (shr1 (by omega)))
  obtain ⟨_, h2, _, ⟨rfl, rfl, e2⟩, K2, H10⟩ := H9.callS (argsL := [.int (Int32.ofNat cs.length), .int (Int32.ofNat cs.length)]) (rest := []) (Wr := 0) (ct_mmin hw x.l x.nar x.kn hnar h0 (Int32.ofNat cs.length) (Int32.ofNat cs.length) (Int32.ofNat cs.length) (by simp)) sub0 (w117 hw) (w118 hw) (w8 hw) (w119 hw) d_uidx_11 pd_mmin rfl (hf := by first | decide | (simp [b_uidx, Bx.R]; done) | (simp [b_uidx, Bx.R]; omega)) (hl := by first | decide | (simp [b_uidx, Bx.R]; done) | (simp [b_uidx, Bx.R]; omega)) (hc := by first | decide | (simp [b_uidx, Bx.R]; done) | (simp [b_uidx, Bx.R]; omega)) (hs := by first | decide | (simp [b_uidx, Bx.R]; done) | (simp [b_uidx, Bx.R]; omega))
  rw [e2] at H10
  have H10 : Hr x b_uidx Z EL1 0 0 h0 [] 14 #[.val (.ref t), .val (.int (0 : Int32)), .val (.int (0 : Int32)), .val (.int (Int32.ofNat cs.length))] [.int (Int32.ofNat cs.length)] := H10
  have H11 : Hr x b_uidx Z EL1 0 0 h0 [] 15 #[.val (.ref t), .val (.int (0 : Int32)), .val (.int (0 : Int32)), .val (.int (Int32.ofNat cs.length))] [] := H10.istoreN d_uidx_14
  have H12 : Hr x b_uidx Z EL1 0 0 h0 [] 16 #[.val (.ref t), .val (.int (0 : Int32)), .val (.int (0 : Int32)), .val (.int (Int32.ofNat cs.length))] [.int (0 : Int32)] := H11.iloadN d_uidx_15
  have H13 : Hr x b_uidx Z EL1 0 0 h0 [] 17 #[.val (.ref t), .val (.int (0 : Int32)), .val (.int (0 : Int32)), .val (.int (Int32.ofNat cs.length))] [.int (Int32.ofNat cs.length), .int (0 : Int32)] := H12.iloadN d_uidx_16
  have H14 : Hr x b_uidx Z EL1 0 0 h0 [] 22 #[.val (.ref t), .val (.int (0 : Int32)), .val (.int (0 : Int32)), .val (.int (Int32.ofNat cs.length))] [] := H13.icmpT d_uidx_17 (XT.ii_lt_t (lt_ofNat (m := 0) hpos (by omega)))
  have H15 : Hr x b_uidx Z EL1 0 0 h0 [] 23 #[.val (.ref t), .val (.int (0 : Int32)), .val (.int (0 : Int32)), .val (.int (Int32.ofNat cs.length))] [.int (0 : Int32)] := H14.iloadN d_uidx_22
  have H16 : Hr x b_uidx Z EL1 0 0 h0 [] 25 #[.val (.ref t), .val (.int (0 : Int32)), .val (.int (0 : Int32)), .val (.int (Int32.ofNat cs.length))] [.int (65536 : Int32), .int (0 : Int32)] := H15.ldcI (w120 hw) d_uidx_23
  have H17 : Hr x b_uidx Z EL1 0 0 h0 [] 28 #[.val (.ref t), .val (.int (0 : Int32)), .val (.int (0 : Int32)), .val (.int (Int32.ofNat cs.length))] [] := H16.icmpF d_uidx_25 (XT.ii_ge_f (by decide))
  have H18 : Hr x b_uidx Z EL1 0 0 h0 [] 29 #[.val (.ref t), .val (.int (0 : Int32)), .val (.int (0 : Int32)), .val (.int (Int32.ofNat cs.length))] [.ref t] := H17.aloadN d_uidx_28
  have H19 : Hr x b_uidx Z EL1 0 0 h0 [] 30 #[.val (.ref t), .val (.int (0 : Int32)), .val (.int (0 : Int32)), .val (.int (Int32.ofNat cs.length))] [.int (0 : Int32), .ref t] := H18.iloadN d_uidx_29
  have H20 : Hr x b_uidx Z EL1 0 0 h0 [] 31 #[.val (.ref t), .val (.int (0 : Int32)), .val (.int (0 : Int32)), .val (.int (Int32.ofNat cs.length))] [.int (0 : Int32), .int (0 : Int32), .ref t] := H19.iloadN d_uidx_30
  have H21 : Hr x b_uidx Z EL1 0 0 h0 [] 32 #[.val (.ref t), .val (.int (0 : Int32)), .val (.int (0 : Int32)), .val (.int (Int32.ofNat cs.length))] [.int (Int32.ofNat cs.length), .int (0 : Int32), .int (0 : Int32), .ref t] := H20.iloadN d_uidx_31
  obtain ⟨_, h3, _, ⟨rfl, rfl, e3⟩, K3, H22⟩ := H21.callS (argsL := [.ref t, .int (0 : Int32), .int (0 : Int32), .int (Int32.ofNat cs.length)]) (rest := []) (Wr := 0) (ct_uioc hw x.l x.nar x.kn hnar h0 t cs Ft hcap hpos hc hnz Sd Sh Sl f hfr P) sub0 (w121 hw) (w122 hw) (w26 hw) (w123 hw) d_uidx_32 pd_uioc rfl (hf := by first | decide | (simp [b_uidx, Bx.R]; done) | (simp [b_uidx, Bx.R]; omega)) (hl := by first | decide | (simp [b_uidx, Bx.R]; done) | (simp [b_uidx, Bx.R]; omega)) (hc := by first | decide | (simp [b_uidx, Bx.R]; done) | (simp [b_uidx, Bx.R]; omega)) (hs := by first | decide | (simp [b_uidx, Bx.R]; done) | (simp [b_uidx, Bx.R]; omega))
  rw [e3] at H22
  have H22 : Hr x b_uidx Z EL1 0 0 h0 [] 35 #[.val (.ref t), .val (.int (0 : Int32)), .val (.int (0 : Int32)), .val (.int (Int32.ofNat cs.length))] [.int (-1 : Int32)] := H22
  exact H22.finI d_uidx_35 ⟨rfl, rfl, rfl⟩ sub0
def b_six2 : Bx := (({ frames := 5, cells := 0, slots := 0, locals := 73 } : Room), (⟨"java/lang/String", "indexOf", "(II)I"⟩ : MethodName), jdk_42_method_80_code, 3, (Option.some Jvm.ClassFile.FieldType.int))
theorem ef_six2 (a : Addr) (mI : MethodId) : entryFrame mI #[.ref a, .int (0 : Int32), .int (0 : Int32)] 3 = mkF mI 0 #[.val (.ref a), .val (.int (0 : Int32)), .val (.int (0 : Int32))] [] := by first | (simp [entryFrame, mkF, argsToLocals, Value.category]; done) | rfl
theorem pd_six2 : parseMethodDescriptor "(II)I" = some ⟨[.int, .int], some .int⟩ := by decide +kernel
set_option maxRecDepth 65536 in
set_option maxHeartbeats 4000000 in
theorem ct_six2 {a0 : Array Value} {Z : State} (hw : ∀ d ∈ tables_1, d.before a0 Z = true) (l : Launch) (nar kn : Bool) (hnr : nar = false) (h0 : Heap) (a : Addr) (cs : List Int32) (F : SS Z h0 a cs) (cz : Int32) (O : Sta Z Z.heap "java/lang/String" "COMPACT_STRINGS" "Z" (.int cz)) (hcz : ¬ cz = 0) (hcap : cs.length ≤ 4) (hpos : 0 < cs.length) (hc : CHL cs) (Sd : Sta Z Z.heap "java/lang/StringUTF16" "$assertionsDisabled" "Z" (.int 1)) (Sh : Sta Z Z.heap "java/lang/StringUTF16" "HI_BYTE_SHIFT" "I" (.int 0)) (Sl : Sta Z Z.heap "java/lang/StringUTF16" "LO_BYTE_SHIFT" "I" (.int 8)) (hnz : ∀ c ∈ cs, ¬ c = 0) (f : Value) (hfr : f.isRef = true) (P : Sta Z Z.heap "jdk/internal/util/Preconditions" "SIOOBE_FORMATTER" "Ljava/util/function/BiFunction;" f) :
    Ct l Z EL1 (⟨"java/lang/String", "indexOf", "(II)I"⟩ : MethodName) jdk_42_method_80_code 3 (Option.some Jvm.ClassFile.FieldType.int) ({ frames := 5, cells := 0, slots := 0, locals := 73 } : Room) #[.ref a, .int (0 : Int32), .int (0 : Int32)] h0 [] nar kn (fun v h sn => v = some (.int (-1)) ∧ sn = [] ∧ h = h0) := by
  refine Ct.intro (plainFor_of_name pn_java_lang_String) (ew hw) (ef_six2 a) ?_
  intro x hl hn0 hkn hsf hh H0
  have hnar : x.nar = false := hn0.trans hnr
  have H0 : Hr x b_six2 Z EL1 0 0 h0 [] 0 #[.val (.ref a), .val (.int (0 : Int32)), .val (.int (0 : Int32))] [] := H0
  have F2 := F
  obtain ⟨t, Ea, Fv, F2⟩ := F2
  have H1 : Hr x b_six2 Z EL1 0 0 h0 [] 1 #[.val (.ref a), .val (.int (0 : Int32)), .val (.int (0 : Int32))] [.ref a] := H0.aloadN d_six2_0
  obtain ⟨_, h1, _, ⟨rfl, rfl, e1⟩, K1, H2⟩ := H1.callV (argsL := []) (rest := []) (Wr := 0) (a := a) (ct_sil1 hw x.l x.nar x.kn hnar h0 a cs F cz O hcz) sub0 Ea (w92 hw) (w93 hw) (w95 hw) (w95 hw) (w94 hw) (w12 hw) (w96 hw) d_six2_1 pd_sil1 rfl (hf := by first | decide | (simp [b_six2, Bx.R]; done) | (simp [b_six2, Bx.R]; omega)) (hl := by first | decide | (simp [b_six2, Bx.R]; done) | (simp [b_six2, Bx.R]; omega)) (hc := by first | decide | (simp [b_six2, Bx.R]; done) | (simp [b_six2, Bx.R]; omega)) (hs := by first | decide | (simp [b_six2, Bx.R]; done) | (simp [b_six2, Bx.R]; omega))
  rw [e1] at H2
  have H2 : Hr x b_six2 Z EL1 0 0 h0 [] 4 #[.val (.ref a), .val (.int (0 : Int32)), .val (.int (0 : Int32))] [.int (if Lat cs then 1 else 0)] := H2
  rcases F2 with ⟨hla, Fc, Ft⟩ | ⟨hla, Fc, Ft⟩
  · have z193 := True.intro
    have H194 : Hr x b_six2 Z EL1 0 0 h0 [] 7 #[.val (.ref a), .val (.int (0 : Int32)), .val (.int (0 : Int32))] [] := H2.ifF d_six2_4 (XT.i0_eq_f (by rw [if_pos hla]; decide))
    have H195 : Hr x b_six2 Z EL1 0 0 h0 [] 8 #[.val (.ref a), .val (.int (0 : Int32)), .val (.int (0 : Int32))] [.ref a] := H194.aloadN d_six2_7
    have H196 : Hr x b_six2 Z EL1 0 0 h0 [] 11 #[.val (.ref a), .val (.int (0 : Int32)), .val (.int (0 : Int32))] [.ref t] := H195.getF (w56 hw) Fv d_six2_8
    have H197 : Hr x b_six2 Z EL1 0 0 h0 [] 12 #[.val (.ref a), .val (.int (0 : Int32)), .val (.int (0 : Int32))] [.int (0 : Int32), .ref t] := H196.iloadN d_six2_11
    have H198 : Hr x b_six2 Z EL1 0 0 h0 [] 13 #[.val (.ref a), .val (.int (0 : Int32)), .val (.int (0 : Int32))] [.int (0 : Int32), .int (0 : Int32), .ref t] := H197.iloadN d_six2_12
    have H199 : Hr x b_six2 Z EL1 0 0 h0 [] 14 #[.val (.ref a), .val (.int (0 : Int32)), .val (.int (0 : Int32))] [.ref a, .int (0 : Int32), .int (0 : Int32), .ref t] := H198.aloadN d_six2_13
    obtain ⟨_, h2, _, ⟨rfl, rfl, e2⟩, K2, H200⟩ := H199.callV (argsL := []) (rest := [.int (0 : Int32), .int (0 : Int32), .ref t]) (Wr := 3) (a := a) (ct_slen hw x.l x.nar x.kn hnar h0 a cs F cz O hcz hcap) sub0 Ea (w84 hw) (w70 hw) (w72 hw) (w72 hw) (w71 hw) (w12 hw) (w73 hw) d_six2_14 pd_slen rfl (hf := by first | decide | (simp [b_six2, Bx.R]; done) | (simp [b_six2, Bx.R]; omega)) (hl := by first | decide | (simp [b_six2, Bx.R]; done) | (simp [b_six2, Bx.R]; omega)) (hc := by first | decide | (simp [b_six2, Bx.R]; done) | (simp [b_six2, Bx.R]; omega)) (hs := by first | decide | (simp [b_six2, Bx.R]; done) | (simp [b_six2, Bx.R]; omega))
    rw [e2] at H200
    have H200 : Hr x b_six2 Z EL1 0 0 h0 [] 17 #[.val (.ref a), .val (.int (0 : Int32)), .val (.int (0 : Int32))] [.int (Int32.ofNat cs.length), .int (0 : Int32), .int (0 : Int32), .ref t] := H200
    have hml : cs.length = (cs.map b8).length := by simp
    have H200 : Hr x b_six2 Z EL1 0 0 h0 [] 17 #[.val (.ref a), .val (.int (0 : Int32)), .val (.int (0 : Int32))] [.int (Int32.ofNat (cs.map b8).length), .int (0 : Int32), .int (0 : Int32), .ref t] := by rw [← hml]; exact H200
    obtain ⟨_, h3, _, ⟨rfl, rfl, e3⟩, K3, H201⟩ := H200.callS (argsL := [.ref t, .int (0 : Int32), .int (0 : Int32), .int (Int32.ofNat (cs.map b8).length)]) (rest := []) (Wr := 0) (ct_lidx hw x.l x.nar x.kn hnar h0 t (cs.map b8) Ft (fun y hy => by obtain ⟨c, hc1, rfl⟩ := List.mem_map.mp hy; exact b8_nz (hc c hc1) (hla c hc1) (hnz c hc1)) (by omega)) sub0 (w161 hw) (w162 hw) (w163 hw) (w164 hw) d_six2_17 pd_lidx rfl (hf := by first | decide | (simp [b_six2, Bx.R]; done) | (simp [b_six2, Bx.R]; omega)) (hl := by first | decide | (simp [b_six2, Bx.R]; done) | (simp [b_six2, Bx.R]; omega)) (hc := by first | decide | (simp [b_six2, Bx.R]; done) | (simp [b_six2, Bx.R]; omega)) (hs := by first | decide | (simp [b_six2, Bx.R]; done) | (simp [b_six2, Bx.R]; omega))
    rw [e3] at H201
    have H201 : Hr x b_six2 Z EL1 0 0 h0 [] 20 #[.val (.ref a), .val (.int (0 : Int32)), .val (.int (0 : Int32))] [.int (-1 : Int32)] := H201
    have H202 : Hr x b_six2 Z EL1 0 0 h0 [] 36 #[.val (.ref a), .val (.int (0 : Int32)), .val (.int (0 : Int32))] [.int (-1 : Int32)] := H201.goto d_six2_20
    exact H202.finI d_six2_36 ⟨rfl, rfl, rfl⟩ sub0
  · have z202 := True.intro
    have H203 : Hr x b_six2 Z EL1 0 0 h0 [] 23 #[.val (.ref a), .val (.int (0 : Int32)), .val (.int (0 : Int32))] [] := H2.ifT d_six2_4 (XT.i0_eq_t (if_neg hla))
    have H204 : Hr x b_six2 Z EL1 0 0 h0 [] 24 #[.val (.ref a), .val (.int (0 : Int32)), .val (.int (0 : Int32))] [.ref a] := H203.aloadN d_six2_23
    have H205 : Hr x b_six2 Z EL1 0 0 h0 [] 27 #[.val (.ref a), .val (.int (0 : Int32)), .val (.int (0 : Int32))] [.ref t] := H204.getF (w56 hw) Fv d_six2_24
    have H206 : Hr x b_six2 Z EL1 0 0 h0 [] 28 #[.val (.ref a), .val (.int (0 : Int32)), .val (.int (0 : Int32))] [.int (0 : Int32), .ref t] := H205.iloadN d_six2_27
    have H207 : Hr x b_six2 Z EL1 0 0 h0 [] 29 #[.val (.ref a), .val (.int (0 : Int32)), .val (.int (0 : Int32))] [.int (0 : Int32), .int (0 : Int32), .ref t] := H206.iloadN d_six2_28
    have H208 : Hr x b_six2 Z EL1 0 0 h0 [] 30 #[.val (.ref a), .val (.int (0 : Int32)), .val (.int (0 : Int32))] [.ref a, .int (0 : Int32), .int (0 : Int32), .ref t] := H207.aloadN d_six2_29
    obtain ⟨_, h2, _, ⟨rfl, rfl, e2⟩, K2, H209⟩ := H208.callV (argsL := []) (rest := [.int (0 : Int32), .int (0 : Int32), .ref t]) (Wr := 3) (a := a) (ct_slen hw x.l x.nar x.kn hnar h0 a cs F cz O hcz hcap) sub0 Ea (w84 hw) (w70 hw) (w72 hw) (w72 hw) (w71 hw) (w12 hw) (w73 hw) d_six2_30 pd_slen rfl (hf := by first | decide | (simp [b_six2, Bx.R]; done) | (simp [b_six2, Bx.R]; omega)) (hl := by first | decide | (simp [b_six2, Bx.R]; done) | (simp [b_six2, Bx.R]; omega)) (hc := by first | decide | (simp [b_six2, Bx.R]; done) | (simp [b_six2, Bx.R]; omega)) (hs := by first | decide | (simp [b_six2, Bx.R]; done) | (simp [b_six2, Bx.R]; omega))
    rw [e2] at H209
    have H209 : Hr x b_six2 Z EL1 0 0 h0 [] 33 #[.val (.ref a), .val (.int (0 : Int32)), .val (.int (0 : Int32))] [.int (Int32.ofNat cs.length), .int (0 : Int32), .int (0 : Int32), .ref t] := H209
    obtain ⟨_, h3, _, ⟨rfl, rfl, e3⟩, K3, H210⟩ := H209.callS (argsL := [.ref t, .int (0 : Int32), .int (0 : Int32), .int (Int32.ofNat cs.length)]) (rest := []) (Wr := 0) (ct_uidx hw x.l x.nar x.kn hnar h0 t cs Ft hcap hpos hc hnz Sd Sh Sl f hfr P) sub0 (w113 hw) (w114 hw) (w26 hw) (w115 hw) d_six2_33 pd_uidx rfl (hf := by first | decide | (simp [b_six2, Bx.R]; done) | (simp [b_six2, Bx.R]; omega)) (hl := by first | decide | (simp [b_six2, Bx.R]; done) | (simp [b_six2, Bx.R]; omega)) (hc := by first | decide | (simp [b_six2, Bx.R]; done) | (simp [b_six2, Bx.R]; omega)) (hs := by first | decide | (simp [b_six2, Bx.R]; done) | (simp [b_six2, Bx.R]; omega))
    rw [e3] at H210
    have H210 : Hr x b_six2 Z EL1 0 0 h0 [] 36 #[.val (.ref a), .val (.int (0 : Int32)), .val (.int (0 : Int32))] [.int (-1 : Int32)] := H210
    exact H210.finI d_six2_36 ⟨rfl, rfl, rfl⟩ sub0
def b_six1 : Bx := (({ frames := 6, cells := 0, slots := 0, locals := 87 } : Room), (⟨"java/lang/String", "indexOf", "(I)I"⟩ : MethodName), jdk_42_method_79_code, 2, (Option.some Jvm.ClassFile.FieldType.int))
theorem ef_six1 (a : Addr) (mI : MethodId) : entryFrame mI #[.ref a, .int (0 : Int32)] 2 = mkF mI 0 #[.val (.ref a), .val (.int (0 : Int32))] [] := by first | (simp [entryFrame, mkF, argsToLocals, Value.category]; done) | rfl
theorem pd_six1 : parseMethodDescriptor "(I)I" = some ⟨[.int], some .int⟩ := by decide +kernel
set_option maxRecDepth 65536 in
set_option maxHeartbeats 4000000 in
theorem ct_six1 {a0 : Array Value} {Z : State} (hw : ∀ d ∈ tables_1, d.before a0 Z = true) (l : Launch) (nar kn : Bool) (hnr : nar = false) (h0 : Heap) (a : Addr) (cs : List Int32) (F : SS Z h0 a cs) (cz : Int32) (O : Sta Z Z.heap "java/lang/String" "COMPACT_STRINGS" "Z" (.int cz)) (hcz : ¬ cz = 0) (hcap : cs.length ≤ 4) (hpos : 0 < cs.length) (hc : CHL cs) (Sd : Sta Z Z.heap "java/lang/StringUTF16" "$assertionsDisabled" "Z" (.int 1)) (Sh : Sta Z Z.heap "java/lang/StringUTF16" "HI_BYTE_SHIFT" "I" (.int 0)) (Sl : Sta Z Z.heap "java/lang/StringUTF16" "LO_BYTE_SHIFT" "I" (.int 8)) (hnz : ∀ c ∈ cs, ¬ c = 0) (f : Value) (hfr : f.isRef = true) (P : Sta Z Z.heap "jdk/internal/util/Preconditions" "SIOOBE_FORMATTER" "Ljava/util/function/BiFunction;" f) :
    Ct l Z EL1 (⟨"java/lang/String", "indexOf", "(I)I"⟩ : MethodName) jdk_42_method_79_code 2 (Option.some Jvm.ClassFile.FieldType.int) ({ frames := 6, cells := 0, slots := 0, locals := 87 } : Room) #[.ref a, .int (0 : Int32)] h0 [] nar kn (fun v h sn => v = some (.int (-1)) ∧ sn = [] ∧ h = h0) := by
  refine Ct.intro (plainFor_of_name pn_java_lang_String) (ew hw) (ef_six1 a) ?_
  intro x hl hn0 hkn hsf hh H0
  have hnar : x.nar = false := hn0.trans hnr
  have H0 : Hr x b_six1 Z EL1 0 0 h0 [] 0 #[.val (.ref a), .val (.int (0 : Int32))] [] := H0
  have F2 := F
  obtain ⟨t, Ea, -⟩ := F2
  have H1 : Hr x b_six1 Z EL1 0 0 h0 [] 1 #[.val (.ref a), .val (.int (0 : Int32))] [.ref a] := H0.aloadN d_six1_0
  have H2 : Hr x b_six1 Z EL1 0 0 h0 [] 2 #[.val (.ref a), .val (.int (0 : Int32))] [.int (0 : Int32), .ref a] := H1.iloadN d_six1_1
  have H3 : Hr x b_six1 Z EL1 0 0 h0 [] 3 #[.val (.ref a), .val (.int (0 : Int32))] [.int (0 : Int32), .int (0 : Int32), .ref a] := H2.iconst d_six1_2
  obtain ⟨_, h1, _, ⟨rfl, rfl, e1⟩, K1, H4⟩ := H3.callV (argsL := [.int (0 : Int32), .int (0 : Int32)]) (rest := []) (Wr := 0) (a := a) (ct_six2 hw x.l x.nar x.kn hnar h0 a cs F cz O hcz hcap hpos hc Sd Sh Sl hnz f hfr P) sub0 Ea (w108 hw) (w109 hw) (w111 hw) (w111 hw) (w110 hw) (w12 hw) (w112 hw) d_six1_3 pd_six2 rfl (hf := by first | decide | (simp [b_six1, Bx.R]; done) | (simp [b_six1, Bx.R]; omega)) (hl := by first | decide | (simp [b_six1, Bx.R]; done) | (simp [b_six1, Bx.R]; omega)) (hc := by first | decide | (simp [b_six1, Bx.R]; done) | (simp [b_six1, Bx.R]; omega)) (hs := by first | decide | (simp [b_six1, Bx.R]; done) | (simp [b_six1, Bx.R]; omega))
  rw [e1] at H4
  have H4 : Hr x b_six1 Z EL1 0 0 h0 [] 6 #[.val (.ref a), .val (.int (0 : Int32))] [.int (-1 : Int32)] := H4
  exact H4.finI d_six1_6 ⟨rfl, rfl, rfl⟩ sub0
def b_rnn : Bx := (({ frames := 0, cells := 0, slots := 0, locals := 0 } : Room), (⟨"java/util/Objects", "requireNonNull", "(Ljava/lang/Object;Ljava/lang/String;)Ljava/lang/Object;"⟩ : MethodName), jdk_31_method_11_code, 2, (Option.some (Jvm.ClassFile.FieldType.object "java/lang/Object")))
theorem ef_rnn (a m : Addr) (mI : MethodId) : entryFrame mI #[.ref a, .ref m] 2 = mkF mI 0 #[.val (.ref a), .val (.ref m)] [] := by first | (simp [entryFrame, mkF, argsToLocals, Value.category]; done) | rfl
theorem pd_rnn : parseMethodDescriptor "(Ljava/lang/Object;Ljava/lang/String;)Ljava/lang/Object;" = some ⟨[(.object "java/lang/Object"), (.object "java/lang/String")], some (.object "java/lang/Object")⟩ := by decide +kernel
set_option maxRecDepth 65536 in
set_option maxHeartbeats 4000000 in
theorem ct_rnn {a0 : Array Value} {Z : State} (hw : ∀ d ∈ tables_1, d.before a0 Z = true) (l : Launch) (nar kn : Bool) (hnr : nar = false) (h0 : Heap) (a m : Addr) :
    Ct l Z EL1 (⟨"java/util/Objects", "requireNonNull", "(Ljava/lang/Object;Ljava/lang/String;)Ljava/lang/Object;"⟩ : MethodName) jdk_31_method_11_code 2 (Option.some (Jvm.ClassFile.FieldType.object "java/lang/Object")) ({ frames := 0, cells := 0, slots := 0, locals := 0 } : Room) #[.ref a, .ref m] h0 [] nar kn (fun v h sn => v = some (.ref a) ∧ sn = [] ∧ h = h0) := by
  refine Ct.intro (plainFor_of_name pn_java_util_Objects) (ew hw) (ef_rnn a m) ?_
  intro x hl hn0 hkn hsf hh H0
  have hnar : x.nar = false := hn0.trans hnr
  have H0 : Hr x b_rnn Z EL1 0 0 h0 [] 0 #[.val (.ref a), .val (.ref m)] [] := H0
  have H1 : Hr x b_rnn Z EL1 0 0 h0 [] 1 #[.val (.ref a), .val (.ref m)] [.ref a] := H0.aloadN d_rnn_0
  have H2 : Hr x b_rnn Z EL1 0 0 h0 [] 13 #[.val (.ref a), .val (.ref m)] [] := H1.ifnonnullT d_rnn_1
  have H3 : Hr x b_rnn Z EL1 0 0 h0 [] 14 #[.val (.ref a), .val (.ref m)] [.ref a] := H2.aloadN d_rnn_13
  exact H3.finA d_rnn_14 ⟨rfl, rfl, rfl⟩ sub0
def b_nchk : Bx := (({ frames := 7, cells := 0, slots := 0, locals := 100 } : Room), (⟨"com/example/lavoro/lavoro/Names", "check", "(Ljava/lang/String;Ljava/lang/String;I)Ljava/lang/String;"⟩ : MethodName), prog_16_method_2_code, 4, (Option.some (Jvm.ClassFile.FieldType.object "java/lang/String")))
theorem ef_nchk (a m : Addr) (mx : Int32) (mI : MethodId) : entryFrame mI #[.ref a, .ref m, .int mx] 4 = mkF mI 0 #[.val (.ref a), .val (.ref m), .val (.int mx), .unset] [] := by first | (simp [entryFrame, mkF, argsToLocals, Value.category]; done) | rfl
theorem pn_com_example_lavoro_lavoro_Names : plainName "com/example/lavoro/lavoro/Names" = true := by first | (simp [plainName, overriddenIn]; done) | decide +kernel
theorem pd_nchk : parseMethodDescriptor "(Ljava/lang/String;Ljava/lang/String;I)Ljava/lang/String;" = some ⟨[(.object "java/lang/String"), (.object "java/lang/String"), .int], some (.object "java/lang/String")⟩ := by decide +kernel
set_option maxRecDepth 65536 in
set_option maxHeartbeats 4000000 in
theorem ct_nchk {a0 : Array Value} {Z : State} (hw : ∀ d ∈ tables_1, d.before a0 Z = true) (l : Launch) (nar kn : Bool) (hnr : nar = false) (h0 : Heap) (m : Addr) (mx : Int32) (a : Addr) (cs : List Int32) (F : SS Z h0 a cs) (cz : Int32) (O : Sta Z Z.heap "java/lang/String" "COMPACT_STRINGS" "Z" (.int cz)) (hcz : ¬ cz = 0) (hcap : cs.length ≤ 4) (hpos : 0 < cs.length) (hc : CHL cs) (Sd : Sta Z Z.heap "java/lang/StringUTF16" "$assertionsDisabled" "Z" (.int 1)) (Sh : Sta Z Z.heap "java/lang/StringUTF16" "HI_BYTE_SHIFT" "I" (.int 0)) (Sl : Sta Z Z.heap "java/lang/StringUTF16" "LO_BYTE_SHIFT" "I" (.int 8)) (hnz : ∀ c ∈ cs, ¬ c = 0) (f : Value) (hfr : f.isRef = true) (P : Sta Z Z.heap "jdk/internal/util/Preconditions" "SIOOBE_FORMATTER" "Ljava/util/function/BiFunction;" f) (hmx : ¬ mx < Int32.ofNat (cs.length - cpn cs)) :
    Ct l Z EL1 (⟨"com/example/lavoro/lavoro/Names", "check", "(Ljava/lang/String;Ljava/lang/String;I)Ljava/lang/String;"⟩ : MethodName) prog_16_method_2_code 4 (Option.some (Jvm.ClassFile.FieldType.object "java/lang/String")) ({ frames := 7, cells := 0, slots := 0, locals := 100 } : Room) #[.ref a, .ref m, .int mx] h0 [] nar kn (fun v h sn => v = some (.ref a) ∧ sn = [] ∧ h = h0) := by
  refine Ct.intro (plainFor_of_name pn_com_example_lavoro_lavoro_Names) (ew hw) (ef_nchk a m mx) ?_
  intro x hl hn0 hkn hsf hh H0
  have hnar : x.nar = false := hn0.trans hnr
  have H0 : Hr x b_nchk Z EL1 0 0 h0 [] 0 #[.val (.ref a), .val (.ref m), .val (.int mx), .unset] [] := H0
  have F2 := F
  obtain ⟨t, Ea, -⟩ := F2
  have hcl := cpn_lt cs hpos
  have hk0 : ¬ Int32.ofNat (cs.length - cpn cs) = 0 := fun q => by have := ofNat_inj (m := cs.length - cpn cs) (n := 0) (by omega) (by decide) q; omega
  have H1 : Hr x b_nchk Z EL1 0 0 h0 [] 1 #[.val (.ref a), .val (.ref m), .val (.int mx), .unset] [.ref a] := H0.aloadN d_nchk_0
  have H2 : Hr x b_nchk Z EL1 0 0 h0 [] 2 #[.val (.ref a), .val (.ref m), .val (.int mx), .unset] [.ref m, .ref a] := H1.aloadN d_nchk_1
  obtain ⟨_, h1, _, ⟨rfl, rfl, e1⟩, K1, H3⟩ := H2.callS (argsL := [.ref a, .ref m]) (rest := []) (Wr := 0) (ct_rnn hw x.l x.nar x.kn hnar h0 a m) sub0 (w65 hw) (w66 hw) (w67 hw) (w68 hw) d_nchk_2 pd_rnn rfl (hf := by first | decide | (simp [b_nchk, Bx.R]; done) | (simp [b_nchk, Bx.R]; omega)) (hl := by first | decide | (simp [b_nchk, Bx.R]; done) | (simp [b_nchk, Bx.R]; omega)) (hc := by first | decide | (simp [b_nchk, Bx.R]; done) | (simp [b_nchk, Bx.R]; omega)) (hs := by first | decide | (simp [b_nchk, Bx.R]; done) | (simp [b_nchk, Bx.R]; omega))
  rw [e1] at H3
  have H3 : Hr x b_nchk Z EL1 0 0 h0 [] 5 #[.val (.ref a), .val (.ref m), .val (.int mx), .unset] [.ref a] := H3
  have H4 : Hr x b_nchk Z EL1 0 0 h0 [] 6 #[.val (.ref a), .val (.ref m), .val (.int mx), .unset] [] := H3.pop d_nchk_5
  have H5 : Hr x b_nchk Z EL1 0 0 h0 [] 7 #[.val (.ref a), .val (.ref m), .val (.int mx), .unset] [.ref a] := H4.aloadN d_nchk_6
  have H6 : Hr x b_nchk Z EL1 0 0 h0 [] 8 #[.val (.ref a), .val (.ref m), .val (.int mx), .unset] [.int (0 : Int32), .ref a] := H5.iconst d_nchk_7
  have H7 : Hr x b_nchk Z EL1 0 0 h0 [] 9 #[.val (.ref a), .val (.ref m), .val (.int mx), .unset] [.ref a, .int (0 : Int32), .ref a] := H6.aloadN d_nchk_8
  obtain ⟨_, h2, _, ⟨rfl, rfl, e2⟩, K2, H8⟩ := H7.callV (argsL := []) (rest := [.int (0 : Int32), .ref a]) (Wr := 2) (a := a) (ct_slen hw x.l x.nar x.kn hnar h0 a cs F cz O hcz hcap) sub0 Ea (w69 hw) (w70 hw) (w72 hw) (w72 hw) (w71 hw) (w12 hw) (w73 hw) d_nchk_9 pd_slen rfl (hf := by first | decide | (simp [b_nchk, Bx.R]; done) | (simp [b_nchk, Bx.R]; omega)) (hl := by first | decide | (simp [b_nchk, Bx.R]; done) | (simp [b_nchk, Bx.R]; omega)) (hc := by first | decide | (simp [b_nchk, Bx.R]; done) | (simp [b_nchk, Bx.R]; omega)) (hs := by first | decide | (simp [b_nchk, Bx.R]; done) | (simp [b_nchk, Bx.R]; omega))
  rw [e2] at H8
  have H8 : Hr x b_nchk Z EL1 0 0 h0 [] 12 #[.val (.ref a), .val (.ref m), .val (.int mx), .unset] [.int (Int32.ofNat cs.length), .int (0 : Int32), .ref a] := H8
  obtain ⟨_, h3, _, ⟨rfl, rfl, e3⟩, K3, H9⟩ := H8.callV (argsL := [.int (0 : Int32), .int (Int32.ofNat cs.length)]) (rest := []) (Wr := 0) (a := a) (ct_scpc hw x.l x.nar x.kn hnar h0 a cs F cz O hcz hcap hpos hc Sd Sh Sl) sub0 Ea (w79 hw) (w80 hw) (w82 hw) (w82 hw) (w81 hw) (w12 hw) (w83 hw) d_nchk_12 pd_scpc rfl (hf := by first | decide | (simp [b_nchk, Bx.R]; done) | (simp [b_nchk, Bx.R]; omega)) (hl := by first | decide | (simp [b_nchk, Bx.R]; done) | (simp [b_nchk, Bx.R]; omega)) (hc := by first | decide | (simp [b_nchk, Bx.R]; done) | (simp [b_nchk, Bx.R]; omega)) (hs := by first | decide | (simp [b_nchk, Bx.R]; done) | (simp [b_nchk, Bx.R]; omega))
  rw [e3] at H9
  have H9 : Hr x b_nchk Z EL1 0 0 h0 [] 15 #[.val (.ref a), .val (.ref m), .val (.int mx), .unset] [.int (Int32.ofNat (cs.length - cpn cs))] := H9
  have H10 : Hr x b_nchk Z EL1 0 0 h0 [] 16 #[.val (.ref a), .val (.ref m), .val (.int mx), .val (.int (Int32.ofNat (cs.length - cpn cs)))] [] := H9.istoreN d_nchk_15
  have H11 : Hr x b_nchk Z EL1 0 0 h0 [] 17 #[.val (.ref a), .val (.ref m), .val (.int mx), .val (.int (Int32.ofNat (cs.length - cpn cs)))] [.int (Int32.ofNat (cs.length - cpn cs))] := H10.iloadN d_nchk_16
  have H12 : Hr x b_nchk Z EL1 0 0 h0 [] 20 #[.val (.ref a), .val (.ref m), .val (.int mx), .val (.int (Int32.ofNat (cs.length - cpn cs)))] [] := H11.ifF d_nchk_17 (XT.i0_eq_f hk0)
  have H13 : Hr x b_nchk Z EL1 0 0 h0 [] 21 #[.val (.ref a), .val (.ref m), .val (.int mx), .val (.int (Int32.ofNat (cs.length - cpn cs)))] [.int (Int32.ofNat (cs.length - cpn cs))] := H12.iloadN d_nchk_20
  have H14 : Hr x b_nchk Z EL1 0 0 h0 [] 22 #[.val (.ref a), .val (.ref m), .val (.int mx), .val (.int (Int32.ofNat (cs.length - cpn cs)))] [.int mx, .int (Int32.ofNat (cs.length - cpn cs))] := H13.iloadN d_nchk_21
  have H15 : Hr x b_nchk Z EL1 0 0 h0 [] 42 #[.val (.ref a), .val (.ref m), .val (.int mx), .val (.int (Int32.ofNat (cs.length - cpn cs)))] [] := H14.icmpT d_nchk_22 (XT.ii_le_t hmx)
  have H16 : Hr x b_nchk Z EL1 0 0 h0 [] 43 #[.val (.ref a), .val (.ref m), .val (.int mx), .val (.int (Int32.ofNat (cs.length - cpn cs)))] [.ref a] := H15.aloadN d_nchk_42
  have H17 : Hr x b_nchk Z EL1 0 0 h0 [] 44 #[.val (.ref a), .val (.ref m), .val (.int mx), .val (.int (Int32.ofNat (cs.length - cpn cs)))] [.int (0 : Int32), .ref a] := H16.iconst d_nchk_43
  obtain ⟨_, h4, _, ⟨rfl, rfl, e4⟩, K4, H18⟩ := H17.callV (argsL := [.int (0 : Int32)]) (rest := []) (Wr := 0) (a := a) (ct_six1 hw x.l x.nar x.kn hnar h0 a cs F cz O hcz hcap hpos hc Sd Sh Sl hnz f hfr P) sub0 Ea (w103 hw) (w104 hw) (w106 hw) (w106 hw) (w105 hw) (w12 hw) (w107 hw) d_nchk_44 pd_six1 rfl (hf := by first | decide | (simp [b_nchk, Bx.R]; done) | (simp [b_nchk, Bx.R]; omega)) (hl := by first | decide | (simp [b_nchk, Bx.R]; done) | (simp [b_nchk, Bx.R]; omega)) (hc := by first | decide | (simp [b_nchk, Bx.R]; done) | (simp [b_nchk, Bx.R]; omega)) (hs := by first | decide | (simp [b_nchk, Bx.R]; done) | (simp [b_nchk, Bx.R]; omega))
  rw [e4] at H18
  have H18 : Hr x b_nchk Z EL1 0 0 h0 [] 47 #[.val (.ref a), .val (.ref m), .val (.int mx), .val (.int (Int32.ofNat (cs.length - cpn cs)))] [.int (-1 : Int32)] := H18
  have H19 : Hr x b_nchk Z EL1 0 0 h0 [] 72 #[.val (.ref a), .val (.ref m), .val (.int mx), .val (.int (Int32.ofNat (cs.length - cpn cs)))] [] := H18.ifT d_nchk_47 (XT.i0_lt_t (by decide))
  have H20 : Hr x b_nchk Z EL1 0 0 h0 [] 73 #[.val (.ref a), .val (.ref m), .val (.int mx), .val (.int (Int32.ofNat (cs.length - cpn cs)))] [.ref a] := H19.aloadN d_nchk_72
  exact H20.finA d_nchk_73 ⟨rfl, rfl, rfl⟩ sub0
def b_at : Bx := (({ frames := 11, cells := 24, slots := 1152, locals := 240 } : Room), (⟨"com/example/lavoro/lavoro/NamesCheckPinLaw", "law", "(IIIIII)Z"⟩ : MethodName), code, 12, ret)
theorem ef_at (p0 : Int32) (p1 : Int32) (p2 : Int32) (p3 : Int32) (p4 : Int32) (p5 : Int32) (mI : MethodId) : entryFrame mI #[.int p0, .int p1, .int p2, .int p3, .int p4, .int p5] 12 = mkF mI 0 #[.val (.int p0), .val (.int p1), .val (.int p2), .val (.int p3), .val (.int p4), .val (.int p5), .unset, .unset, .unset, .unset, .unset, .unset] [] := by first | (simp [entryFrame, mkF, argsToLocals, Value.category]; done) | rfl
theorem pd_at : parseMethodDescriptor "(IIIIII)Z" = some ⟨[.int, .int, .int, .int, .int, .int], some .boolean⟩ := by decide +kernel
set_option maxRecDepth 65536 in
set_option maxHeartbeats 4000000 in
theorem ct_law {a0 : Array Value} {Z : State} (hw : ∀ d ∈ tables_1, d.before a0 Z = true) (l : Launch) (nar kn : Bool) (hnr : nar = false) (h0 : Heap) (p0 : Int32) (p1 : Int32) (p2 : Int32) (p3 : Int32) (p4 : Int32) (p5 : Int32) (f : Value) (hfr : f.isRef = true) (P : Sta Z Z.heap "jdk/internal/util/Preconditions" "SIOOBE_FORMATTER" "Ljava/util/function/BiFunction;" f) (cz : Int32) (O : Sta Z Z.heap "java/lang/String" "COMPACT_STRINGS" "Z" (.int cz)) (hcz : ¬ cz = 0) (Sd : Sta Z Z.heap "java/lang/StringUTF16" "$assertionsDisabled" "Z" (.int 1)) (Sh : Sta Z Z.heap "java/lang/StringUTF16" "HI_BYTE_SHIFT" "I" (.int 0)) (Sl : Sta Z Z.heap "java/lang/StringUTF16" "LO_BYTE_SHIFT" "I" (.int 8)) :
    Ct l Z EL1 (⟨"com/example/lavoro/lavoro/NamesCheckPinLaw", "law", "(IIIIII)Z"⟩ : MethodName) code 12 ret ({ frames := 11, cells := 24, slots := 1152, locals := 240 } : Room) #[.int p0, .int p1, .int p2, .int p3, .int p4, .int p5] h0 [] nar kn (fun v h sn => v = some (.int 1) ∧ sn = []) := by
  refine Ct.intro (plainFor_of_name pn_com_example_lavoro_lavoro_NamesCheckPinLaw) (ew hw) (ef_at p0 p1 p2 p3 p4 p5) ?_
  intro x hl hn0 hkn hsf hh H0
  have hnar : x.nar = false := hn0.trans hnr
  have H0 : Hr x b_at Z EL1 0 0 h0 [] 0 #[.val (.int p0), .val (.int p1), .val (.int p2), .val (.int p3), .val (.int p4), .val (.int p5), .unset, .unset, .unset, .unset, .unset, .unset] [] := H0
  rcases (and3 p4) with hm | hm | hm | hm
  · have z210 := True.intro
    have H211 : Hr x b_at Z EL1 0 0 h0 [] 1 #[.val (.int p0), .val (.int p1), .val (.int p2), .val (.int p3), .val (.int p4), .val (.int p5), .unset, .unset, .unset, .unset, .unset, .unset] [.int (1 : Int32)] := H0.iconst at_0
    have H212 : Hr x b_at Z EL1 0 0 h0 [] 3 #[.val (.int p0), .val (.int p1), .val (.int p2), .val (.int p3), .val (.int p4), .val (.int p5), .unset, .unset, .unset, .unset, .unset, .unset] [.int p4, .int (1 : Int32)] := H211.iload at_1
    have H213 : Hr x b_at Z EL1 0 0 h0 [] 4 #[.val (.int p0), .val (.int p1), .val (.int p2), .val (.int p3), .val (.int p4), .val (.int p5), .unset, .unset, .unset, .unset, .unset, .unset] [.int (3 : Int32), .int p4, .int (1 : Int32)] := H212.iconst at_3
    have H214 : Hr x b_at Z EL1 0 0 h0 [] 5 #[.val (.int p0), .val (.int p1), .val (.int p2), .val (.int p3), .val (.int p4), .val (.int p5), .unset, .unset, .unset, .unset, .unset, .unset] [.int (p4 &&& (3 : Int32)), .int (1 : Int32)] := H213.iand at_4
    have H215 : Hr x b_at Z EL1 0 0 h0 [] 6 #[.val (.int p0), .val (.int p1), .val (.int p2), .val (.int p3), .val (.int p4), .val (.int p5), .unset, .unset, .unset, .unset, .unset, .unset] [.int (1 : Int32)] := H214.iadd at_5 (hv := (by rw [hm]; decide))
    have H216 : Hr x b_at Z EL1 0 0 h0 [] 8 #[.val (.int p0), .val (.int p1), .val (.int p2), .val (.int p3), .val (.int p4), .val (.int p5), .val (.int (1 : Int32)), .unset, .unset, .unset, .unset, .unset] [] := H215.istore at_6
    have H217 : Hr x b_at Z EL1 0 0 h0 [] 10 #[.val (.int p0), .val (.int p1), .val (.int p2), .val (.int p3), .val (.int p4), .val (.int p5), .val (.int (1 : Int32)), .unset, .unset, .unset, .unset, .unset] [.int (1 : Int32)] := H216.iload at_8
    obtain ⟨h1, E1, Fc, H218⟩ := H217.newarray (aty := .char) (cap := 1) (w0 hw) at_10 (by decide) (by decide) (by decide) (by first | decide | (simp [b_at, Bx.R]; done) | (simp [b_at, Bx.R]; omega)) (by first | decide | (simp [b_at, Bx.R]; done) | (simp [b_at, Bx.R]; omega))
    obtain ⟨ca, g_ca⟩ : ∃ z, z = h0.size := ⟨_, rfl⟩
    rw [← g_ca] at Fc H218
    have Fc : Ar Z h1 ca .char (List.replicate 1 (.int 0)) := Fc
    have H218 : Hr x b_at Z EL1 1 1 h1 [ca] 12 #[.val (.int p0), .val (.int p1), .val (.int p2), .val (.int p3), .val (.int p4), .val (.int p5), .val (.int (1 : Int32)), .unset, .unset, .unset, .unset, .unset] [.ref ca] := H218
    have H219 : Hr x b_at Z EL1 1 1 h1 [ca] 14 #[.val (.int p0), .val (.int p1), .val (.int p2), .val (.int p3), .val (.int p4), .val (.int p5), .val (.int (1 : Int32)), .val (.ref ca), .unset, .unset, .unset, .unset] [] := H218.astore at_12
    have H220 : Hr x b_at Z EL1 1 1 h1 [ca] 16 #[.val (.int p0), .val (.int p1), .val (.int p2), .val (.int p3), .val (.int p4), .val (.int p5), .val (.int (1 : Int32)), .val (.ref ca), .unset, .unset, .unset, .unset] [.ref ca] := H219.aload at_14
    have H221 : Hr x b_at Z EL1 1 1 h1 [ca] 17 #[.val (.int p0), .val (.int p1), .val (.int p2), .val (.int p3), .val (.int p4), .val (.int p5), .val (.int (1 : Int32)), .val (.ref ca), .unset, .unset, .unset, .unset] [.int (0 : Int32), .ref ca] := H220.iconst at_16
    have H222 : Hr x b_at Z EL1 1 1 h1 [ca] 18 #[.val (.int p0), .val (.int p1), .val (.int p2), .val (.int p3), .val (.int p4), .val (.int p5), .val (.int (1 : Int32)), .val (.ref ca), .unset, .unset, .unset, .unset] [.int p0, .int (0 : Int32), .ref ca] := H221.iloadN at_17
    obtain ⟨_, hd0, _, ⟨rfl, rfl, ed0⟩, Kd0, H223⟩ := H222.callS (argsL := [.int p0]) (rest := [.int (0 : Int32), .ref ca]) (Wr := 2) (ct_draw hw x.l x.nar x.kn hnar h1 p0) sub0 (w1 hw) (w2 hw) (w3 hw) (w4 hw) at_18 pd_draw rfl (hf := by first | decide | (simp [b_at, Bx.R]; done) | (simp [b_at, Bx.R]; omega)) (hl := by first | decide | (simp [b_at, Bx.R]; done) | (simp [b_at, Bx.R]; omega)) (hc := by first | decide | (simp [b_at, Bx.R]; done) | (simp [b_at, Bx.R]; omega)) (hs := by first | decide | (simp [b_at, Bx.R]; done) | (simp [b_at, Bx.R]; omega))
    rw [ed0] at H223
    have H223 : Hr x b_at Z EL1 1 1 h1 [ca] 21 #[.val (.int p0), .val (.int p1), .val (.int p2), .val (.int p3), .val (.int p4), .val (.int p5), .val (.int (1 : Int32)), .val (.ref ca), .unset, .unset, .unset, .unset] [.int (dr p0), .int (0 : Int32), .ref ca] := H223
    obtain ⟨hs0, Ws0, H224⟩ := H223.castore (by simp) Fc at_21 (i := 0) rfl (by simp) (hw := (chr_dr p0).nar)
    have H224 : Hr x b_at Z EL1 1 1 hs0 [ca] 22 #[.val (.int p0), .val (.int p1), .val (.int p2), .val (.int p3), .val (.int p4), .val (.int p5), .val (.int (1 : Int32)), .val (.ref ca), .unset, .unset, .unset, .unset] [] := H224
    have Fc : Ar Z hs0 ca .char [.int (dr p0)] := Fc.set Ws0
    have H225 : Hr x b_at Z EL1 1 1 hs0 [ca] 24 #[.val (.int p0), .val (.int p1), .val (.int p2), .val (.int p3), .val (.int p4), .val (.int p5), .val (.int (1 : Int32)), .val (.ref ca), .unset, .unset, .unset, .unset] [.int (1 : Int32)] := H224.iload at_22
    have H226 : Hr x b_at Z EL1 1 1 hs0 [ca] 25 #[.val (.int p0), .val (.int p1), .val (.int p2), .val (.int p3), .val (.int p4), .val (.int p5), .val (.int (1 : Int32)), .val (.ref ca), .unset, .unset, .unset, .unset] [.int (1 : Int32), .int (1 : Int32)] := H225.iconst at_24
    have H227 : Hr x b_at Z EL1 1 1 hs0 [ca] 36 #[.val (.int p0), .val (.int p1), .val (.int p2), .val (.int p3), .val (.int p4), .val (.int p5), .val (.int (1 : Int32)), .val (.ref ca), .unset, .unset, .unset, .unset] [] := H226.icmpT at_25 (XT.ii_le_t (by decide))
    have H228 : Hr x b_at Z EL1 1 1 hs0 [ca] 38 #[.val (.int p0), .val (.int p1), .val (.int p2), .val (.int p3), .val (.int p4), .val (.int p5), .val (.int (1 : Int32)), .val (.ref ca), .unset, .unset, .unset, .unset] [.int (1 : Int32)] := H227.iload at_36
    have H229 : Hr x b_at Z EL1 1 1 hs0 [ca] 39 #[.val (.int p0), .val (.int p1), .val (.int p2), .val (.int p3), .val (.int p4), .val (.int p5), .val (.int (1 : Int32)), .val (.ref ca), .unset, .unset, .unset, .unset] [.int (2 : Int32), .int (1 : Int32)] := H228.iconst at_38
    have H230 : Hr x b_at Z EL1 1 1 hs0 [ca] 50 #[.val (.int p0), .val (.int p1), .val (.int p2), .val (.int p3), .val (.int p4), .val (.int p5), .val (.int (1 : Int32)), .val (.ref ca), .unset, .unset, .unset, .unset] [] := H229.icmpT at_39 (XT.ii_le_t (by decide))
    have H231 : Hr x b_at Z EL1 1 1 hs0 [ca] 52 #[.val (.int p0), .val (.int p1), .val (.int p2), .val (.int p3), .val (.int p4), .val (.int p5), .val (.int (1 : Int32)), .val (.ref ca), .unset, .unset, .unset, .unset] [.int (1 : Int32)] := H230.iload at_50
    have H232 : Hr x b_at Z EL1 1 1 hs0 [ca] 53 #[.val (.int p0), .val (.int p1), .val (.int p2), .val (.int p3), .val (.int p4), .val (.int p5), .val (.int (1 : Int32)), .val (.ref ca), .unset, .unset, .unset, .unset] [.int (3 : Int32), .int (1 : Int32)] := H231.iconst at_52
    have H233 : Hr x b_at Z EL1 1 1 hs0 [ca] 64 #[.val (.int p0), .val (.int p1), .val (.int p2), .val (.int p3), .val (.int p4), .val (.int p5), .val (.int (1 : Int32)), .val (.ref ca), .unset, .unset, .unset, .unset] [] := H232.icmpT at_53 (XT.ii_le_t (by decide))
    have H234 : Hr x b_at Z EL1 1 1 hs0 [ca] 66 #[.val (.int p0), .val (.int p1), .val (.int p2), .val (.int p3), .val (.int p4), .val (.int p5), .val (.int (1 : Int32)), .val (.ref ca), .unset, .unset, .unset, .unset] [.ref ca] := H233.aload at_64
    have H235 : Hr x b_at Z EL1 1 1 hs0 [ca] 67 #[.val (.int p0), .val (.int p1), .val (.int p2), .val (.int p3), .val (.int p4), .val (.int p5), .val (.int (1 : Int32)), .val (.ref ca), .unset, .unset, .unset, .unset] [.int (0 : Int32), .ref ca] := H234.iconst at_66
    have H236 : Hr x b_at Z EL1 1 1 hs0 [ca] 68 #[.val (.int p0), .val (.int p1), .val (.int p2), .val (.int p3), .val (.int p4), .val (.int p5), .val (.int (1 : Int32)), .val (.ref ca), .unset, .unset, .unset, .unset] [.int (dr p0)] := H235.caload Fc at_67 (i := 0) rfl rfl
    by_cases q0 : dr p0 = 0
    · have z236 := q0
      have H237 : Hr x b_at Z EL1 1 1 hs0 [ca] 110 #[.val (.int p0), .val (.int p1), .val (.int p2), .val (.int p3), .val (.int p4), .val (.int p5), .val (.int (1 : Int32)), .val (.ref ca), .unset, .unset, .unset, .unset] [] := H236.ifT at_68 (XT.i0_eq_t q0)
      have H238 : Hr x b_at Z EL1 1 1 hs0 [ca] 111 #[.val (.int p0), .val (.int p1), .val (.int p2), .val (.int p3), .val (.int p4), .val (.int p5), .val (.int (1 : Int32)), .val (.ref ca), .unset, .unset, .unset, .unset] [.int (1 : Int32)] := H237.iconst at_110
      exact H238.finZ at_111 (t := .boolean) (by first | rfl | decide) ⟨rfl, rfl⟩ sub0
    · have z238 := q0
      have H239 : Hr x b_at Z EL1 1 1 hs0 [ca] 71 #[.val (.int p0), .val (.int p1), .val (.int p2), .val (.int p3), .val (.int p4), .val (.int p5), .val (.int (1 : Int32)), .val (.ref ca), .unset, .unset, .unset, .unset] [] := H236.ifF at_68 (XT.i0_eq_f q0)
      have H240 : Hr x b_at Z EL1 1 1 hs0 [ca] 73 #[.val (.int p0), .val (.int p1), .val (.int p2), .val (.int p3), .val (.int p4), .val (.int p5), .val (.int (1 : Int32)), .val (.ref ca), .unset, .unset, .unset, .unset] [.int (1 : Int32)] := H239.iload at_71
      have H241 : Hr x b_at Z EL1 1 1 hs0 [ca] 74 #[.val (.int p0), .val (.int p1), .val (.int p2), .val (.int p3), .val (.int p4), .val (.int p5), .val (.int (1 : Int32)), .val (.ref ca), .unset, .unset, .unset, .unset] [.int (1 : Int32), .int (1 : Int32)] := H240.iconst at_73
      have H242 : Hr x b_at Z EL1 1 1 hs0 [ca] 84 #[.val (.int p0), .val (.int p1), .val (.int p2), .val (.int p3), .val (.int p4), .val (.int p5), .val (.int (1 : Int32)), .val (.ref ca), .unset, .unset, .unset, .unset] [] := H241.icmpT at_74 (XT.ii_le_t (by decide))
      have H243 : Hr x b_at Z EL1 1 1 hs0 [ca] 86 #[.val (.int p0), .val (.int p1), .val (.int p2), .val (.int p3), .val (.int p4), .val (.int p5), .val (.int (1 : Int32)), .val (.ref ca), .unset, .unset, .unset, .unset] [.int (1 : Int32)] := H242.iload at_84
      have H244 : Hr x b_at Z EL1 1 1 hs0 [ca] 87 #[.val (.int p0), .val (.int p1), .val (.int p2), .val (.int p3), .val (.int p4), .val (.int p5), .val (.int (1 : Int32)), .val (.ref ca), .unset, .unset, .unset, .unset] [.int (2 : Int32), .int (1 : Int32)] := H243.iconst at_86
      have H245 : Hr x b_at Z EL1 1 1 hs0 [ca] 97 #[.val (.int p0), .val (.int p1), .val (.int p2), .val (.int p3), .val (.int p4), .val (.int p5), .val (.int (1 : Int32)), .val (.ref ca), .unset, .unset, .unset, .unset] [] := H244.icmpT at_87 (XT.ii_le_t (by decide))
      have H246 : Hr x b_at Z EL1 1 1 hs0 [ca] 99 #[.val (.int p0), .val (.int p1), .val (.int p2), .val (.int p3), .val (.int p4), .val (.int p5), .val (.int (1 : Int32)), .val (.ref ca), .unset, .unset, .unset, .unset] [.int (1 : Int32)] := H245.iload at_97
      have H247 : Hr x b_at Z EL1 1 1 hs0 [ca] 100 #[.val (.int p0), .val (.int p1), .val (.int p2), .val (.int p3), .val (.int p4), .val (.int p5), .val (.int (1 : Int32)), .val (.ref ca), .unset, .unset, .unset, .unset] [.int (3 : Int32), .int (1 : Int32)] := H246.iconst at_99
      have H248 : Hr x b_at Z EL1 1 1 hs0 [ca] 112 #[.val (.int p0), .val (.int p1), .val (.int p2), .val (.int p3), .val (.int p4), .val (.int p5), .val (.int (1 : Int32)), .val (.ref ca), .unset, .unset, .unset, .unset] [] := H247.icmpT at_100 (XT.ii_le_t (by decide))
      have H249 : Hr x b_at Z EL1 1 1 hs0 [ca] 114 #[.val (.int p0), .val (.int p1), .val (.int p2), .val (.int p3), .val (.int p4), .val (.int p5), .val (.int (1 : Int32)), .val (.ref ca), .unset, .unset, .unset, .unset] [.int (1 : Int32)] := H248.iload at_112
      have H250 : Hr x b_at Z EL1 1 1 hs0 [ca] 116 #[.val (.int p0), .val (.int p1), .val (.int p2), .val (.int p3), .val (.int p4), .val (.int p5), .val (.int (1 : Int32)), .val (.ref ca), .val (.int (1 : Int32)), .unset, .unset, .unset] [] := H249.istore at_114
      have H251 : Hr x b_at Z EL1 1 1 hs0 [ca] 118 #[.val (.int p0), .val (.int p1), .val (.int p2), .val (.int p3), .val (.int p4), .val (.int p5), .val (.int (1 : Int32)), .val (.ref ca), .val (.int (1 : Int32)), .unset, .unset, .unset] [.int (1 : Int32)] := H250.iload at_116
      have H252 : Hr x b_at Z EL1 1 1 hs0 [ca] 119 #[.val (.int p0), .val (.int p1), .val (.int p2), .val (.int p3), .val (.int p4), .val (.int p5), .val (.int (1 : Int32)), .val (.ref ca), .val (.int (1 : Int32)), .unset, .unset, .unset] [.int (1 : Int32), .int (1 : Int32)] := H251.iconst at_118
      have H253 : Hr x b_at Z EL1 1 1 hs0 [ca] 138 #[.val (.int p0), .val (.int p1), .val (.int p2), .val (.int p3), .val (.int p4), .val (.int p5), .val (.int (1 : Int32)), .val (.ref ca), .val (.int (1 : Int32)), .unset, .unset, .unset] [] := H252.icmpT at_119 (XT.ii_le_t (by decide))
      have H254 : Hr x b_at Z EL1 1 1 hs0 [ca] 140 #[.val (.int p0), .val (.int p1), .val (.int p2), .val (.int p3), .val (.int p4), .val (.int p5), .val (.int (1 : Int32)), .val (.ref ca), .val (.int (1 : Int32)), .unset, .unset, .unset] [.int (1 : Int32)] := H253.iload at_138
      have H255 : Hr x b_at Z EL1 1 1 hs0 [ca] 141 #[.val (.int p0), .val (.int p1), .val (.int p2), .val (.int p3), .val (.int p4), .val (.int p5), .val (.int (1 : Int32)), .val (.ref ca), .val (.int (1 : Int32)), .unset, .unset, .unset] [.int (2 : Int32), .int (1 : Int32)] := H254.iconst at_140
      have H256 : Hr x b_at Z EL1 1 1 hs0 [ca] 160 #[.val (.int p0), .val (.int p1), .val (.int p2), .val (.int p3), .val (.int p4), .val (.int p5), .val (.int (1 : Int32)), .val (.ref ca), .val (.int (1 : Int32)), .unset, .unset, .unset] [] := H255.icmpT at_141 (XT.ii_le_t (by decide))
      have H257 : Hr x b_at Z EL1 1 1 hs0 [ca] 162 #[.val (.int p0), .val (.int p1), .val (.int p2), .val (.int p3), .val (.int p4), .val (.int p5), .val (.int (1 : Int32)), .val (.ref ca), .val (.int (1 : Int32)), .unset, .unset, .unset] [.int (1 : Int32)] := H256.iload at_160
      have H258 : Hr x b_at Z EL1 1 1 hs0 [ca] 163 #[.val (.int p0), .val (.int p1), .val (.int p2), .val (.int p3), .val (.int p4), .val (.int p5), .val (.int (1 : Int32)), .val (.ref ca), .val (.int (1 : Int32)), .unset, .unset, .unset] [.int (3 : Int32), .int (1 : Int32)] := H257.iconst at_162
      have H259 : Hr x b_at Z EL1 1 1 hs0 [ca] 182 #[.val (.int p0), .val (.int p1), .val (.int p2), .val (.int p3), .val (.int p4), .val (.int p5), .val (.int (1 : Int32)), .val (.ref ca), .val (.int (1 : Int32)), .unset, .unset, .unset] [] := H258.icmpT at_163 (XT.ii_le_t (by decide))
      have H260 : Hr x b_at Z EL1 1 1 hs0 [ca] 184 #[.val (.int p0), .val (.int p1), .val (.int p2), .val (.int p3), .val (.int p4), .val (.int p5), .val (.int (1 : Int32)), .val (.ref ca), .val (.int (1 : Int32)), .unset, .unset, .unset] [.int p5] := H259.iload at_182
      have H261 : Hr x b_at Z EL1 1 1 hs0 [ca] 186 #[.val (.int p0), .val (.int p1), .val (.int p2), .val (.int p3), .val (.int p4), .val (.int p5), .val (.int (1 : Int32)), .val (.ref ca), .val (.int (1 : Int32)), .unset, .unset, .unset] [.int (1 : Int32), .int p5] := H260.iload at_184
      obtain ⟨mx, hmx⟩ : ∃ r, r = if p5 < (1 : Int32) then (1 : Int32) else p5 := ⟨_, rfl⟩
      obtain ⟨_, hq, _, ⟨rfl, rfl, eq⟩, Kq, H262⟩ := H261.callS (argsL := [.int p5, .int (1 : Int32)]) (rest := []) (Wr := 0) (ct_mmax hw x.l x.nar x.kn hnar hs0 p5 (1 : Int32) mx hmx) sub0 (w6 hw) (w7 hw) (w8 hw) (w9 hw) at_186 pd_mmax rfl (hf := by first | decide | (simp [b_at, Bx.R]; done) | (simp [b_at, Bx.R]; omega)) (hl := by first | decide | (simp [b_at, Bx.R]; done) | (simp [b_at, Bx.R]; omega)) (hc := by first | decide | (simp [b_at, Bx.R]; done) | (simp [b_at, Bx.R]; omega)) (hs := by first | decide | (simp [b_at, Bx.R]; done) | (simp [b_at, Bx.R]; omega))
      rw [eq] at H262
      have H262 : Hr x b_at Z EL1 1 1 hs0 [ca] 189 #[.val (.int p0), .val (.int p1), .val (.int p2), .val (.int p3), .val (.int p4), .val (.int p5), .val (.int (1 : Int32)), .val (.ref ca), .val (.int (1 : Int32)), .unset, .unset, .unset] [.int mx] := H262
      have hge := max_ge hmx
      have hcnt : (1 : Int32) = Int32.ofNat ([dr p0].length - cpn [dr p0]) := cnt1 (dr p0)
      rw [hcnt] at hge
      have hch : CHL [dr p0] := fun c hc => by simp only [List.mem_cons, List.not_mem_nil, or_false] at hc; rcases hc with rfl <;> exact chr_dr _
      have hnz : ∀ c ∈ [dr p0], ¬ c = 0 := fun c hc => by simp only [List.mem_cons, List.not_mem_nil, or_false] at hc; rcases hc with rfl; exact q0
      have H263 : Hr x b_at Z EL1 1 1 hs0 [ca] 191 #[.val (.int p0), .val (.int p1), .val (.int p2), .val (.int p3), .val (.int p4), .val (.int p5), .val (.int (1 : Int32)), .val (.ref ca), .val (.int (1 : Int32)), .val (.int mx), .unset, .unset] [] := H262.istore at_189
      obtain ⟨h3, E3, ⟨X3, D3, U3⟩, H264⟩ := H263.new (w10 hw) (w11 hw) (w12 hw) at_191 (by first | decide | (simp [b_at, Bx.R]; done) | (simp [b_at, Bx.R]; omega)) (by first | decide | (simp [b_at, Bx.R]; done) | (simp [b_at, Bx.R]; omega))
      obtain ⟨s, g_s⟩ : ∃ z, z = hs0.size := ⟨_, rfl⟩
      rw [← g_s] at X3 D3 U3 H264
      have H264 : Hr x b_at Z EL1 2 5 h3 [s, ca] 194 #[.val (.int p0), .val (.int p1), .val (.int p2), .val (.int p3), .val (.int p4), .val (.int p5), .val (.int (1 : Int32)), .val (.ref ca), .val (.int (1 : Int32)), .val (.int mx), .unset, .unset] [.ref s] := H264
      have H265 : Hr x b_at Z EL1 2 5 h3 [s, ca] 195 #[.val (.int p0), .val (.int p1), .val (.int p2), .val (.int p3), .val (.int p4), .val (.int p5), .val (.int (1 : Int32)), .val (.ref ca), .val (.int (1 : Int32)), .val (.int mx), .unset, .unset] [.ref s, .ref s] := H264.dup at_194
      have H266 : Hr x b_at Z EL1 2 5 h3 [s, ca] 197 #[.val (.int p0), .val (.int p1), .val (.int p2), .val (.int p3), .val (.int p4), .val (.int p5), .val (.int (1 : Int32)), .val (.ref ca), .val (.int (1 : Int32)), .val (.int mx), .unset, .unset] [.ref ca, .ref s, .ref s] := H265.aload at_195
      have Fcd : Fld Z h3 s "java/lang/String" "coder" "B" (.int 0) := D3 (Or.inr (w55 hw)) (ty := .byte) (by decide)
      have Fvl : Fld Z h3 s "java/lang/String" "value" "[B" .null := D3 (Or.inr (w57 hw)) (ty := .array .byte) (by decide)
      obtain ⟨_, h4, _, ⟨rfl, rfl, Fs⟩, K4, H267⟩ := H266.callI (argsL := [.ref ca]) (rest := [.ref s]) (Wr := 1) (a := s) (ct_sini1 hw x.l x.nar x.kn hnar h3 s ca [dr p0] X3 Fcd Fvl (Fc.ext E3) (by simp) (by simp) hch cz O hcz Sd Sh Sl) (sub1 (by simp)) (w13 hw) (w14 hw) (w12 hw) (w15 hw) at_197 pd_sini1 rfl (hf := by first | decide | (simp [b_at, Bx.R]; done) | (simp [b_at, Bx.R]; omega)) (hl := by first | decide | (simp [b_at, Bx.R]; done) | (simp [b_at, Bx.R]; omega)) (hc := by first | decide | (simp [b_at, Bx.R]; done) | (simp [b_at, Bx.R]; omega)) (hs := by first | decide | (simp [b_at, Bx.R]; done) | (simp [b_at, Bx.R]; omega))
      have H267 : Hr x b_at Z EL1 4 17 h4 [s, ca] 200 #[.val (.int p0), .val (.int p1), .val (.int p2), .val (.int p3), .val (.int p4), .val (.int p5), .val (.int (1 : Int32)), .val (.ref ca), .val (.int (1 : Int32)), .val (.int mx), .unset, .unset] [.ref s] := H267
      have H268 : Hr x b_at Z EL1 4 17 h4 [s, ca] 202 #[.val (.int p0), .val (.int p1), .val (.int p2), .val (.int p3), .val (.int p4), .val (.int p5), .val (.int (1 : Int32)), .val (.ref ca), .val (.int (1 : Int32)), .val (.int mx), .val (.ref s), .unset] [] := H267.astore at_200
      have H269 : Hr x b_at Z EL1 4 17 h4 [s, ca] 204 #[.val (.int p0), .val (.int p1), .val (.int p2), .val (.int p3), .val (.int p4), .val (.int p5), .val (.int (1 : Int32)), .val (.ref ca), .val (.int (1 : Int32)), .val (.int mx), .val (.ref s), .unset] [.ref s] := H268.aload at_202
      obtain ⟨nm, h5, E5, H270⟩ := H269.ldcO (n := 16) (w58 hw) (wStr hw) (ew hw) at_204 (by decide) (by decide) hnar (by decide) (by decide)
      have H270 : Hr x b_at Z EL1 6 37 h5 [s, ca] 206 #[.val (.int p0), .val (.int p1), .val (.int p2), .val (.int p3), .val (.int p4), .val (.int p5), .val (.int (1 : Int32)), .val (.ref ca), .val (.int (1 : Int32)), .val (.int mx), .val (.ref s), .unset] [.ref nm, .ref s] := H270
      have H271 : Hr x b_at Z EL1 6 37 h5 [s, ca] 208 #[.val (.int p0), .val (.int p1), .val (.int p2), .val (.int p3), .val (.int p4), .val (.int p5), .val (.int (1 : Int32)), .val (.ref ca), .val (.int (1 : Int32)), .val (.int mx), .val (.ref s), .unset] [.int mx, .ref nm, .ref s] := H270.iload at_206
      obtain ⟨_, h6, _, ⟨rfl, rfl, e6⟩, K6, H272⟩ := H271.callS (argsL := [.ref s, .ref nm, .int mx]) (rest := []) (Wr := 0) (ct_nchk hw x.l x.nar x.kn hnar h5 nm mx s [dr p0] (Fs.ext E5) cz O hcz (by simp) (by simp) hch Sd Sh Sl hnz f hfr P hge) sub0 (w61 hw) (w62 hw) (w63 hw) (w64 hw) at_208 pd_nchk rfl (hf := by first | decide | (simp [b_at, Bx.R]; done) | (simp [b_at, Bx.R]; omega)) (hl := by first | decide | (simp [b_at, Bx.R]; done) | (simp [b_at, Bx.R]; omega)) (hc := by first | decide | (simp [b_at, Bx.R]; done) | (simp [b_at, Bx.R]; omega)) (hs := by first | decide | (simp [b_at, Bx.R]; done) | (simp [b_at, Bx.R]; omega))
      rw [e6] at H272
      have H272 : Hr x b_at Z EL1 6 37 h5 [s, ca] 211 #[.val (.int p0), .val (.int p1), .val (.int p2), .val (.int p3), .val (.int p4), .val (.int p5), .val (.int (1 : Int32)), .val (.ref ca), .val (.int (1 : Int32)), .val (.int mx), .val (.ref s), .unset] [.ref s] := H272
      have H273 : Hr x b_at Z EL1 6 37 h5 [s, ca] 213 #[.val (.int p0), .val (.int p1), .val (.int p2), .val (.int p3), .val (.int p4), .val (.int p5), .val (.int (1 : Int32)), .val (.ref ca), .val (.int (1 : Int32)), .val (.int mx), .val (.ref s), .val (.ref s)] [] := H272.astore at_211
      have H274 : Hr x b_at Z EL1 6 37 h5 [s, ca] 215 #[.val (.int p0), .val (.int p1), .val (.int p2), .val (.int p3), .val (.int p4), .val (.int p5), .val (.int (1 : Int32)), .val (.ref ca), .val (.int (1 : Int32)), .val (.int mx), .val (.ref s), .val (.ref s)] [.ref s] := H273.aload at_213
      have H275 : Hr x b_at Z EL1 6 37 h5 [s, ca] 217 #[.val (.int p0), .val (.int p1), .val (.int p2), .val (.int p3), .val (.int p4), .val (.int p5), .val (.int (1 : Int32)), .val (.ref ca), .val (.int (1 : Int32)), .val (.int mx), .val (.ref s), .val (.ref s)] [.ref s, .ref s] := H274.aload at_215
      have H276 : Hr x b_at Z EL1 6 37 h5 [s, ca] 220 #[.val (.int p0), .val (.int p1), .val (.int p2), .val (.int p3), .val (.int p4), .val (.int p5), .val (.int (1 : Int32)), .val (.ref ca), .val (.int (1 : Int32)), .val (.int mx), .val (.ref s), .val (.ref s)] [] := H275.acmpF at_217 (by simp [XT.acmp])
      have H277 : Hr x b_at Z EL1 6 37 h5 [s, ca] 221 #[.val (.int p0), .val (.int p1), .val (.int p2), .val (.int p3), .val (.int p4), .val (.int p5), .val (.int (1 : Int32)), .val (.ref ca), .val (.int (1 : Int32)), .val (.int mx), .val (.ref s), .val (.ref s)] [.int (1 : Int32)] := H276.iconst at_220
      have H278 : Hr x b_at Z EL1 6 37 h5 [s, ca] 225 #[.val (.int p0), .val (.int p1), .val (.int p2), .val (.int p3), .val (.int p4), .val (.int p5), .val (.int (1 : Int32)), .val (.ref ca), .val (.int (1 : Int32)), .val (.int mx), .val (.ref s), .val (.ref s)] [.int (1 : Int32)] := H277.goto at_221
      exact H278.finZ at_225 (t := .boolean) (by first | rfl | decide) ⟨rfl, rfl⟩ sub0
  · have z278 := True.intro
    have H279 : Hr x b_at Z EL1 0 0 h0 [] 1 #[.val (.int p0), .val (.int p1), .val (.int p2), .val (.int p3), .val (.int p4), .val (.int p5), .unset, .unset, .unset, .unset, .unset, .unset] [.int (1 : Int32)] := H0.iconst at_0
    have H280 : Hr x b_at Z EL1 0 0 h0 [] 3 #[.val (.int p0), .val (.int p1), .val (.int p2), .val (.int p3), .val (.int p4), .val (.int p5), .unset, .unset, .unset, .unset, .unset, .unset] [.int p4, .int (1 : Int32)] := H279.iload at_1
    have H281 : Hr x b_at Z EL1 0 0 h0 [] 4 #[.val (.int p0), .val (.int p1), .val (.int p2), .val (.int p3), .val (.int p4), .val (.int p5), .unset, .unset, .unset, .unset, .unset, .unset] [.int (3 : Int32), .int p4, .int (1 : Int32)] := H280.iconst at_3
    have H282 : Hr x b_at Z EL1 0 0 h0 [] 5 #[.val (.int p0), .val (.int p1), .val (.int p2), .val (.int p3), .val (.int p4), .val (.int p5), .unset, .unset, .unset, .unset, .unset, .unset] [.int (p4 &&& (3 : Int32)), .int (1 : Int32)] := H281.iand at_4
    have H283 : Hr x b_at Z EL1 0 0 h0 [] 6 #[.val (.int p0), .val (.int p1), .val (.int p2), .val (.int p3), .val (.int p4), .val (.int p5), .unset, .unset, .unset, .unset, .unset, .unset] [.int (2 : Int32)] := H282.iadd at_5 (hv := (by rw [hm]; decide))
    have H284 : Hr x b_at Z EL1 0 0 h0 [] 8 #[.val (.int p0), .val (.int p1), .val (.int p2), .val (.int p3), .val (.int p4), .val (.int p5), .val (.int (2 : Int32)), .unset, .unset, .unset, .unset, .unset] [] := H283.istore at_6
    have H285 : Hr x b_at Z EL1 0 0 h0 [] 10 #[.val (.int p0), .val (.int p1), .val (.int p2), .val (.int p3), .val (.int p4), .val (.int p5), .val (.int (2 : Int32)), .unset, .unset, .unset, .unset, .unset] [.int (2 : Int32)] := H284.iload at_8
    obtain ⟨h1, E1, Fc, H286⟩ := H285.newarray (aty := .char) (cap := 2) (w0 hw) at_10 (by decide) (by decide) (by decide) (by first | decide | (simp [b_at, Bx.R]; done) | (simp [b_at, Bx.R]; omega)) (by first | decide | (simp [b_at, Bx.R]; done) | (simp [b_at, Bx.R]; omega))
    obtain ⟨ca, g_ca⟩ : ∃ z, z = h0.size := ⟨_, rfl⟩
    rw [← g_ca] at Fc H286
    have Fc : Ar Z h1 ca .char (List.replicate 2 (.int 0)) := Fc
    have H286 : Hr x b_at Z EL1 1 2 h1 [ca] 12 #[.val (.int p0), .val (.int p1), .val (.int p2), .val (.int p3), .val (.int p4), .val (.int p5), .val (.int (2 : Int32)), .unset, .unset, .unset, .unset, .unset] [.ref ca] := H286
    have H287 : Hr x b_at Z EL1 1 2 h1 [ca] 14 #[.val (.int p0), .val (.int p1), .val (.int p2), .val (.int p3), .val (.int p4), .val (.int p5), .val (.int (2 : Int32)), .val (.ref ca), .unset, .unset, .unset, .unset] [] := H286.astore at_12
    have H288 : Hr x b_at Z EL1 1 2 h1 [ca] 16 #[.val (.int p0), .val (.int p1), .val (.int p2), .val (.int p3), .val (.int p4), .val (.int p5), .val (.int (2 : Int32)), .val (.ref ca), .unset, .unset, .unset, .unset] [.ref ca] := H287.aload at_14
    have H289 : Hr x b_at Z EL1 1 2 h1 [ca] 17 #[.val (.int p0), .val (.int p1), .val (.int p2), .val (.int p3), .val (.int p4), .val (.int p5), .val (.int (2 : Int32)), .val (.ref ca), .unset, .unset, .unset, .unset] [.int (0 : Int32), .ref ca] := H288.iconst at_16
    have H290 : Hr x b_at Z EL1 1 2 h1 [ca] 18 #[.val (.int p0), .val (.int p1), .val (.int p2), .val (.int p3), .val (.int p4), .val (.int p5), .val (.int (2 : Int32)), .val (.ref ca), .unset, .unset, .unset, .unset] [.int p0, .int (0 : Int32), .ref ca] := H289.iloadN at_17
    obtain ⟨_, hd0, _, ⟨rfl, rfl, ed0⟩, Kd0, H291⟩ := H290.callS (argsL := [.int p0]) (rest := [.int (0 : Int32), .ref ca]) (Wr := 2) (ct_draw hw x.l x.nar x.kn hnar h1 p0) sub0 (w1 hw) (w2 hw) (w3 hw) (w4 hw) at_18 pd_draw rfl (hf := by first | decide | (simp [b_at, Bx.R]; done) | (simp [b_at, Bx.R]; omega)) (hl := by first | decide | (simp [b_at, Bx.R]; done) | (simp [b_at, Bx.R]; omega)) (hc := by first | decide | (simp [b_at, Bx.R]; done) | (simp [b_at, Bx.R]; omega)) (hs := by first | decide | (simp [b_at, Bx.R]; done) | (simp [b_at, Bx.R]; omega))
    rw [ed0] at H291
    have H291 : Hr x b_at Z EL1 1 2 h1 [ca] 21 #[.val (.int p0), .val (.int p1), .val (.int p2), .val (.int p3), .val (.int p4), .val (.int p5), .val (.int (2 : Int32)), .val (.ref ca), .unset, .unset, .unset, .unset] [.int (dr p0), .int (0 : Int32), .ref ca] := H291
    obtain ⟨hs0, Ws0, H292⟩ := H291.castore (by simp) Fc at_21 (i := 0) rfl (by simp) (hw := (chr_dr p0).nar)
    have H292 : Hr x b_at Z EL1 1 2 hs0 [ca] 22 #[.val (.int p0), .val (.int p1), .val (.int p2), .val (.int p3), .val (.int p4), .val (.int p5), .val (.int (2 : Int32)), .val (.ref ca), .unset, .unset, .unset, .unset] [] := H292
    have Fc : Ar Z hs0 ca .char [.int (dr p0), .int 0] := Fc.set Ws0
    have H293 : Hr x b_at Z EL1 1 2 hs0 [ca] 24 #[.val (.int p0), .val (.int p1), .val (.int p2), .val (.int p3), .val (.int p4), .val (.int p5), .val (.int (2 : Int32)), .val (.ref ca), .unset, .unset, .unset, .unset] [.int (2 : Int32)] := H292.iload at_22
    have H294 : Hr x b_at Z EL1 1 2 hs0 [ca] 25 #[.val (.int p0), .val (.int p1), .val (.int p2), .val (.int p3), .val (.int p4), .val (.int p5), .val (.int (2 : Int32)), .val (.ref ca), .unset, .unset, .unset, .unset] [.int (1 : Int32), .int (2 : Int32)] := H293.iconst at_24
    have H295 : Hr x b_at Z EL1 1 2 hs0 [ca] 28 #[.val (.int p0), .val (.int p1), .val (.int p2), .val (.int p3), .val (.int p4), .val (.int p5), .val (.int (2 : Int32)), .val (.ref ca), .unset, .unset, .unset, .unset] [] := H294.icmpF at_25 (XT.ii_le_f (by decide))
    have H296 : Hr x b_at Z EL1 1 2 hs0 [ca] 30 #[.val (.int p0), .val (.int p1), .val (.int p2), .val (.int p3), .val (.int p4), .val (.int p5), .val (.int (2 : Int32)), .val (.ref ca), .unset, .unset, .unset, .unset] [.ref ca] := H295.aload at_28
    have H297 : Hr x b_at Z EL1 1 2 hs0 [ca] 31 #[.val (.int p0), .val (.int p1), .val (.int p2), .val (.int p3), .val (.int p4), .val (.int p5), .val (.int (2 : Int32)), .val (.ref ca), .unset, .unset, .unset, .unset] [.int (1 : Int32), .ref ca] := H296.iconst at_30
    have H298 : Hr x b_at Z EL1 1 2 hs0 [ca] 32 #[.val (.int p0), .val (.int p1), .val (.int p2), .val (.int p3), .val (.int p4), .val (.int p5), .val (.int (2 : Int32)), .val (.ref ca), .unset, .unset, .unset, .unset] [.int p1, .int (1 : Int32), .ref ca] := H297.iloadN at_31
    obtain ⟨_, hd1, _, ⟨rfl, rfl, ed1⟩, Kd1, H299⟩ := H298.callS (argsL := [.int p1]) (rest := [.int (1 : Int32), .ref ca]) (Wr := 2) (ct_draw hw x.l x.nar x.kn hnar hs0 p1) sub0 (w1 hw) (w2 hw) (w3 hw) (w4 hw) at_32 pd_draw rfl (hf := by first | decide | (simp [b_at, Bx.R]; done) | (simp [b_at, Bx.R]; omega)) (hl := by first | decide | (simp [b_at, Bx.R]; done) | (simp [b_at, Bx.R]; omega)) (hc := by first | decide | (simp [b_at, Bx.R]; done) | (simp [b_at, Bx.R]; omega)) (hs := by first | decide | (simp [b_at, Bx.R]; done) | (simp [b_at, Bx.R]; omega))
    rw [ed1] at H299
    have H299 : Hr x b_at Z EL1 1 2 hs0 [ca] 35 #[.val (.int p0), .val (.int p1), .val (.int p2), .val (.int p3), .val (.int p4), .val (.int p5), .val (.int (2 : Int32)), .val (.ref ca), .unset, .unset, .unset, .unset] [.int (dr p1), .int (1 : Int32), .ref ca] := H299
    obtain ⟨hs1, Ws1, H300⟩ := H299.castore (by simp) Fc at_35 (i := 1) rfl (by simp) (hw := (chr_dr p1).nar)
    have H300 : Hr x b_at Z EL1 1 2 hs1 [ca] 36 #[.val (.int p0), .val (.int p1), .val (.int p2), .val (.int p3), .val (.int p4), .val (.int p5), .val (.int (2 : Int32)), .val (.ref ca), .unset, .unset, .unset, .unset] [] := H300
    have Fc : Ar Z hs1 ca .char [.int (dr p0), .int (dr p1)] := Fc.set Ws1
    have H301 : Hr x b_at Z EL1 1 2 hs1 [ca] 38 #[.val (.int p0), .val (.int p1), .val (.int p2), .val (.int p3), .val (.int p4), .val (.int p5), .val (.int (2 : Int32)), .val (.ref ca), .unset, .unset, .unset, .unset] [.int (2 : Int32)] := H300.iload at_36
    have H302 : Hr x b_at Z EL1 1 2 hs1 [ca] 39 #[.val (.int p0), .val (.int p1), .val (.int p2), .val (.int p3), .val (.int p4), .val (.int p5), .val (.int (2 : Int32)), .val (.ref ca), .unset, .unset, .unset, .unset] [.int (2 : Int32), .int (2 : Int32)] := H301.iconst at_38
    have H303 : Hr x b_at Z EL1 1 2 hs1 [ca] 50 #[.val (.int p0), .val (.int p1), .val (.int p2), .val (.int p3), .val (.int p4), .val (.int p5), .val (.int (2 : Int32)), .val (.ref ca), .unset, .unset, .unset, .unset] [] := H302.icmpT at_39 (XT.ii_le_t (by decide))
    have H304 : Hr x b_at Z EL1 1 2 hs1 [ca] 52 #[.val (.int p0), .val (.int p1), .val (.int p2), .val (.int p3), .val (.int p4), .val (.int p5), .val (.int (2 : Int32)), .val (.ref ca), .unset, .unset, .unset, .unset] [.int (2 : Int32)] := H303.iload at_50
    have H305 : Hr x b_at Z EL1 1 2 hs1 [ca] 53 #[.val (.int p0), .val (.int p1), .val (.int p2), .val (.int p3), .val (.int p4), .val (.int p5), .val (.int (2 : Int32)), .val (.ref ca), .unset, .unset, .unset, .unset] [.int (3 : Int32), .int (2 : Int32)] := H304.iconst at_52
    have H306 : Hr x b_at Z EL1 1 2 hs1 [ca] 64 #[.val (.int p0), .val (.int p1), .val (.int p2), .val (.int p3), .val (.int p4), .val (.int p5), .val (.int (2 : Int32)), .val (.ref ca), .unset, .unset, .unset, .unset] [] := H305.icmpT at_53 (XT.ii_le_t (by decide))
    have H307 : Hr x b_at Z EL1 1 2 hs1 [ca] 66 #[.val (.int p0), .val (.int p1), .val (.int p2), .val (.int p3), .val (.int p4), .val (.int p5), .val (.int (2 : Int32)), .val (.ref ca), .unset, .unset, .unset, .unset] [.ref ca] := H306.aload at_64
    have H308 : Hr x b_at Z EL1 1 2 hs1 [ca] 67 #[.val (.int p0), .val (.int p1), .val (.int p2), .val (.int p3), .val (.int p4), .val (.int p5), .val (.int (2 : Int32)), .val (.ref ca), .unset, .unset, .unset, .unset] [.int (0 : Int32), .ref ca] := H307.iconst at_66
    have H309 : Hr x b_at Z EL1 1 2 hs1 [ca] 68 #[.val (.int p0), .val (.int p1), .val (.int p2), .val (.int p3), .val (.int p4), .val (.int p5), .val (.int (2 : Int32)), .val (.ref ca), .unset, .unset, .unset, .unset] [.int (dr p0)] := H308.caload Fc at_67 (i := 0) rfl rfl
    by_cases q0 : dr p0 = 0
    · have z309 := q0
      have H310 : Hr x b_at Z EL1 1 2 hs1 [ca] 110 #[.val (.int p0), .val (.int p1), .val (.int p2), .val (.int p3), .val (.int p4), .val (.int p5), .val (.int (2 : Int32)), .val (.ref ca), .unset, .unset, .unset, .unset] [] := H309.ifT at_68 (XT.i0_eq_t q0)
      have H311 : Hr x b_at Z EL1 1 2 hs1 [ca] 111 #[.val (.int p0), .val (.int p1), .val (.int p2), .val (.int p3), .val (.int p4), .val (.int p5), .val (.int (2 : Int32)), .val (.ref ca), .unset, .unset, .unset, .unset] [.int (1 : Int32)] := H310.iconst at_110
      exact H311.finZ at_111 (t := .boolean) (by first | rfl | decide) ⟨rfl, rfl⟩ sub0
    · have z311 := q0
      have H312 : Hr x b_at Z EL1 1 2 hs1 [ca] 71 #[.val (.int p0), .val (.int p1), .val (.int p2), .val (.int p3), .val (.int p4), .val (.int p5), .val (.int (2 : Int32)), .val (.ref ca), .unset, .unset, .unset, .unset] [] := H309.ifF at_68 (XT.i0_eq_f q0)
      have H313 : Hr x b_at Z EL1 1 2 hs1 [ca] 73 #[.val (.int p0), .val (.int p1), .val (.int p2), .val (.int p3), .val (.int p4), .val (.int p5), .val (.int (2 : Int32)), .val (.ref ca), .unset, .unset, .unset, .unset] [.int (2 : Int32)] := H312.iload at_71
      have H314 : Hr x b_at Z EL1 1 2 hs1 [ca] 74 #[.val (.int p0), .val (.int p1), .val (.int p2), .val (.int p3), .val (.int p4), .val (.int p5), .val (.int (2 : Int32)), .val (.ref ca), .unset, .unset, .unset, .unset] [.int (1 : Int32), .int (2 : Int32)] := H313.iconst at_73
      have H315 : Hr x b_at Z EL1 1 2 hs1 [ca] 77 #[.val (.int p0), .val (.int p1), .val (.int p2), .val (.int p3), .val (.int p4), .val (.int p5), .val (.int (2 : Int32)), .val (.ref ca), .unset, .unset, .unset, .unset] [] := H314.icmpF at_74 (XT.ii_le_f (by decide))
      have H316 : Hr x b_at Z EL1 1 2 hs1 [ca] 79 #[.val (.int p0), .val (.int p1), .val (.int p2), .val (.int p3), .val (.int p4), .val (.int p5), .val (.int (2 : Int32)), .val (.ref ca), .unset, .unset, .unset, .unset] [.ref ca] := H315.aload at_77
      have H317 : Hr x b_at Z EL1 1 2 hs1 [ca] 80 #[.val (.int p0), .val (.int p1), .val (.int p2), .val (.int p3), .val (.int p4), .val (.int p5), .val (.int (2 : Int32)), .val (.ref ca), .unset, .unset, .unset, .unset] [.int (1 : Int32), .ref ca] := H316.iconst at_79
      have H318 : Hr x b_at Z EL1 1 2 hs1 [ca] 81 #[.val (.int p0), .val (.int p1), .val (.int p2), .val (.int p3), .val (.int p4), .val (.int p5), .val (.int (2 : Int32)), .val (.ref ca), .unset, .unset, .unset, .unset] [.int (dr p1)] := H317.caload Fc at_80 (i := 1) rfl rfl
      by_cases q1 : dr p1 = 0
      · have z318 := q1
        have H319 : Hr x b_at Z EL1 1 2 hs1 [ca] 110 #[.val (.int p0), .val (.int p1), .val (.int p2), .val (.int p3), .val (.int p4), .val (.int p5), .val (.int (2 : Int32)), .val (.ref ca), .unset, .unset, .unset, .unset] [] := H318.ifT at_81 (XT.i0_eq_t q1)
        have H320 : Hr x b_at Z EL1 1 2 hs1 [ca] 111 #[.val (.int p0), .val (.int p1), .val (.int p2), .val (.int p3), .val (.int p4), .val (.int p5), .val (.int (2 : Int32)), .val (.ref ca), .unset, .unset, .unset, .unset] [.int (1 : Int32)] := H319.iconst at_110
        exact H320.finZ at_111 (t := .boolean) (by first | rfl | decide) ⟨rfl, rfl⟩ sub0
      · have z320 := q1
        have H321 : Hr x b_at Z EL1 1 2 hs1 [ca] 84 #[.val (.int p0), .val (.int p1), .val (.int p2), .val (.int p3), .val (.int p4), .val (.int p5), .val (.int (2 : Int32)), .val (.ref ca), .unset, .unset, .unset, .unset] [] := H318.ifF at_81 (XT.i0_eq_f q1)
        have H322 : Hr x b_at Z EL1 1 2 hs1 [ca] 86 #[.val (.int p0), .val (.int p1), .val (.int p2), .val (.int p3), .val (.int p4), .val (.int p5), .val (.int (2 : Int32)), .val (.ref ca), .unset, .unset, .unset, .unset] [.int (2 : Int32)] := H321.iload at_84
        have H323 : Hr x b_at Z EL1 1 2 hs1 [ca] 87 #[.val (.int p0), .val (.int p1), .val (.int p2), .val (.int p3), .val (.int p4), .val (.int p5), .val (.int (2 : Int32)), .val (.ref ca), .unset, .unset, .unset, .unset] [.int (2 : Int32), .int (2 : Int32)] := H322.iconst at_86
        have H324 : Hr x b_at Z EL1 1 2 hs1 [ca] 97 #[.val (.int p0), .val (.int p1), .val (.int p2), .val (.int p3), .val (.int p4), .val (.int p5), .val (.int (2 : Int32)), .val (.ref ca), .unset, .unset, .unset, .unset] [] := H323.icmpT at_87 (XT.ii_le_t (by decide))
        have H325 : Hr x b_at Z EL1 1 2 hs1 [ca] 99 #[.val (.int p0), .val (.int p1), .val (.int p2), .val (.int p3), .val (.int p4), .val (.int p5), .val (.int (2 : Int32)), .val (.ref ca), .unset, .unset, .unset, .unset] [.int (2 : Int32)] := H324.iload at_97
        have H326 : Hr x b_at Z EL1 1 2 hs1 [ca] 100 #[.val (.int p0), .val (.int p1), .val (.int p2), .val (.int p3), .val (.int p4), .val (.int p5), .val (.int (2 : Int32)), .val (.ref ca), .unset, .unset, .unset, .unset] [.int (3 : Int32), .int (2 : Int32)] := H325.iconst at_99
        have H327 : Hr x b_at Z EL1 1 2 hs1 [ca] 112 #[.val (.int p0), .val (.int p1), .val (.int p2), .val (.int p3), .val (.int p4), .val (.int p5), .val (.int (2 : Int32)), .val (.ref ca), .unset, .unset, .unset, .unset] [] := H326.icmpT at_100 (XT.ii_le_t (by decide))
        have H328 : Hr x b_at Z EL1 1 2 hs1 [ca] 114 #[.val (.int p0), .val (.int p1), .val (.int p2), .val (.int p3), .val (.int p4), .val (.int p5), .val (.int (2 : Int32)), .val (.ref ca), .unset, .unset, .unset, .unset] [.int (2 : Int32)] := H327.iload at_112
        have H329 : Hr x b_at Z EL1 1 2 hs1 [ca] 116 #[.val (.int p0), .val (.int p1), .val (.int p2), .val (.int p3), .val (.int p4), .val (.int p5), .val (.int (2 : Int32)), .val (.ref ca), .val (.int (2 : Int32)), .unset, .unset, .unset] [] := H328.istore at_114
        have H330 : Hr x b_at Z EL1 1 2 hs1 [ca] 118 #[.val (.int p0), .val (.int p1), .val (.int p2), .val (.int p3), .val (.int p4), .val (.int p5), .val (.int (2 : Int32)), .val (.ref ca), .val (.int (2 : Int32)), .unset, .unset, .unset] [.int (2 : Int32)] := H329.iload at_116
        have H331 : Hr x b_at Z EL1 1 2 hs1 [ca] 119 #[.val (.int p0), .val (.int p1), .val (.int p2), .val (.int p3), .val (.int p4), .val (.int p5), .val (.int (2 : Int32)), .val (.ref ca), .val (.int (2 : Int32)), .unset, .unset, .unset] [.int (1 : Int32), .int (2 : Int32)] := H330.iconst at_118
        have H332 : Hr x b_at Z EL1 1 2 hs1 [ca] 122 #[.val (.int p0), .val (.int p1), .val (.int p2), .val (.int p3), .val (.int p4), .val (.int p5), .val (.int (2 : Int32)), .val (.ref ca), .val (.int (2 : Int32)), .unset, .unset, .unset] [] := H331.icmpF at_119 (XT.ii_le_f (by decide))
        have H333 : Hr x b_at Z EL1 1 2 hs1 [ca] 124 #[.val (.int p0), .val (.int p1), .val (.int p2), .val (.int p3), .val (.int p4), .val (.int p5), .val (.int (2 : Int32)), .val (.ref ca), .val (.int (2 : Int32)), .unset, .unset, .unset] [.int (2 : Int32)] := H332.iload at_122
        have H334 : Hr x b_at Z EL1 1 2 hs1 [ca] 126 #[.val (.int p0), .val (.int p1), .val (.int p2), .val (.int p3), .val (.int p4), .val (.int p5), .val (.int (2 : Int32)), .val (.ref ca), .val (.int (2 : Int32)), .unset, .unset, .unset] [.ref ca, .int (2 : Int32)] := H333.aload at_124
        have H335 : Hr x b_at Z EL1 1 2 hs1 [ca] 127 #[.val (.int p0), .val (.int p1), .val (.int p2), .val (.int p3), .val (.int p4), .val (.int p5), .val (.int (2 : Int32)), .val (.ref ca), .val (.int (2 : Int32)), .unset, .unset, .unset] [.int (0 : Int32), .ref ca, .int (2 : Int32)] := H334.iconst at_126
        have H336 : Hr x b_at Z EL1 1 2 hs1 [ca] 128 #[.val (.int p0), .val (.int p1), .val (.int p2), .val (.int p3), .val (.int p4), .val (.int p5), .val (.int (2 : Int32)), .val (.ref ca), .val (.int (2 : Int32)), .unset, .unset, .unset] [.int (dr p0), .int (2 : Int32)] := H335.caload Fc at_127 (i := 0) rfl rfl
        have H337 : Hr x b_at Z EL1 1 2 hs1 [ca] 130 #[.val (.int p0), .val (.int p1), .val (.int p2), .val (.int p3), .val (.int p4), .val (.int p5), .val (.int (2 : Int32)), .val (.ref ca), .val (.int (2 : Int32)), .unset, .unset, .unset] [.ref ca, .int (dr p0), .int (2 : Int32)] := H336.aload at_128
        have H338 : Hr x b_at Z EL1 1 2 hs1 [ca] 131 #[.val (.int p0), .val (.int p1), .val (.int p2), .val (.int p3), .val (.int p4), .val (.int p5), .val (.int (2 : Int32)), .val (.ref ca), .val (.int (2 : Int32)), .unset, .unset, .unset] [.int (1 : Int32), .ref ca, .int (dr p0), .int (2 : Int32)] := H337.iconst at_130
        have H339 : Hr x b_at Z EL1 1 2 hs1 [ca] 132 #[.val (.int p0), .val (.int p1), .val (.int p2), .val (.int p3), .val (.int p4), .val (.int p5), .val (.int (2 : Int32)), .val (.ref ca), .val (.int (2 : Int32)), .unset, .unset, .unset] [.int (dr p1), .int (dr p0), .int (2 : Int32)] := H338.caload Fc at_131 (i := 1) rfl rfl
        obtain ⟨_, hp0, _, ⟨rfl, rfl, ep0⟩, Kp0, H340⟩ := H339.callS (argsL := [.int (dr p0), .int (dr p1)]) (rest := [.int (2 : Int32)]) (Wr := 1) (ct_pair hw x.l x.nar x.kn hnar hs1 (dr p0) (dr p1)) sub0 (w140 hw) (w141 hw) (w3 hw) (w142 hw) at_132 pd_pair rfl (hf := by first | decide | (simp [b_at, Bx.R]; done) | (simp [b_at, Bx.R]; omega)) (hl := by first | decide | (simp [b_at, Bx.R]; done) | (simp [b_at, Bx.R]; omega)) (hc := by first | decide | (simp [b_at, Bx.R]; done) | (simp [b_at, Bx.R]; omega)) (hs := by first | decide | (simp [b_at, Bx.R]; done) | (simp [b_at, Bx.R]; omega))
        rw [ep0] at H340
        have H340 : Hr x b_at Z EL1 1 2 hs1 [ca] 135 #[.val (.int p0), .val (.int p1), .val (.int p2), .val (.int p3), .val (.int p4), .val (.int p5), .val (.int (2 : Int32)), .val (.ref ca), .val (.int (2 : Int32)), .unset, .unset, .unset] [.int (b01 (hiB (dr p0) && loB (dr p1))), .int (2 : Int32)] := H340
        have H341 : Hr x b_at Z EL1 1 2 hs1 [ca] 136 #[.val (.int p0), .val (.int p1), .val (.int p2), .val (.int p3), .val (.int p4), .val (.int p5), .val (.int (2 : Int32)), .val (.ref ca), .val (.int (2 : Int32)), .unset, .unset, .unset] [.int ((2 : Int32) - (b01 (hiB (dr p0) && loB (dr p1))))] := H340.isub at_135
        have H342 : Hr x b_at Z EL1 1 2 hs1 [ca] 138 #[.val (.int p0), .val (.int p1), .val (.int p2), .val (.int p3), .val (.int p4), .val (.int p5), .val (.int (2 : Int32)), .val (.ref ca), .val (.int ((2 : Int32) - (b01 (hiB (dr p0) && loB (dr p1))))), .unset, .unset, .unset] [] := H341.istore at_136
        have H343 : Hr x b_at Z EL1 1 2 hs1 [ca] 140 #[.val (.int p0), .val (.int p1), .val (.int p2), .val (.int p3), .val (.int p4), .val (.int p5), .val (.int (2 : Int32)), .val (.ref ca), .val (.int ((2 : Int32) - (b01 (hiB (dr p0) && loB (dr p1))))), .unset, .unset, .unset] [.int (2 : Int32)] := H342.iload at_138
        have H344 : Hr x b_at Z EL1 1 2 hs1 [ca] 141 #[.val (.int p0), .val (.int p1), .val (.int p2), .val (.int p3), .val (.int p4), .val (.int p5), .val (.int (2 : Int32)), .val (.ref ca), .val (.int ((2 : Int32) - (b01 (hiB (dr p0) && loB (dr p1))))), .unset, .unset, .unset] [.int (2 : Int32), .int (2 : Int32)] := H343.iconst at_140
        have H345 : Hr x b_at Z EL1 1 2 hs1 [ca] 160 #[.val (.int p0), .val (.int p1), .val (.int p2), .val (.int p3), .val (.int p4), .val (.int p5), .val (.int (2 : Int32)), .val (.ref ca), .val (.int ((2 : Int32) - (b01 (hiB (dr p0) && loB (dr p1))))), .unset, .unset, .unset] [] := H344.icmpT at_141 (XT.ii_le_t (by decide))
        have H346 : Hr x b_at Z EL1 1 2 hs1 [ca] 162 #[.val (.int p0), .val (.int p1), .val (.int p2), .val (.int p3), .val (.int p4), .val (.int p5), .val (.int (2 : Int32)), .val (.ref ca), .val (.int ((2 : Int32) - (b01 (hiB (dr p0) && loB (dr p1))))), .unset, .unset, .unset] [.int (2 : Int32)] := H345.iload at_160
        have H347 : Hr x b_at Z EL1 1 2 hs1 [ca] 163 #[.val (.int p0), .val (.int p1), .val (.int p2), .val (.int p3), .val (.int p4), .val (.int p5), .val (.int (2 : Int32)), .val (.ref ca), .val (.int ((2 : Int32) - (b01 (hiB (dr p0) && loB (dr p1))))), .unset, .unset, .unset] [.int (3 : Int32), .int (2 : Int32)] := H346.iconst at_162
        have H348 : Hr x b_at Z EL1 1 2 hs1 [ca] 182 #[.val (.int p0), .val (.int p1), .val (.int p2), .val (.int p3), .val (.int p4), .val (.int p5), .val (.int (2 : Int32)), .val (.ref ca), .val (.int ((2 : Int32) - (b01 (hiB (dr p0) && loB (dr p1))))), .unset, .unset, .unset] [] := H347.icmpT at_163 (XT.ii_le_t (by decide))
        have H349 : Hr x b_at Z EL1 1 2 hs1 [ca] 184 #[.val (.int p0), .val (.int p1), .val (.int p2), .val (.int p3), .val (.int p4), .val (.int p5), .val (.int (2 : Int32)), .val (.ref ca), .val (.int ((2 : Int32) - (b01 (hiB (dr p0) && loB (dr p1))))), .unset, .unset, .unset] [.int p5] := H348.iload at_182
        have H350 : Hr x b_at Z EL1 1 2 hs1 [ca] 186 #[.val (.int p0), .val (.int p1), .val (.int p2), .val (.int p3), .val (.int p4), .val (.int p5), .val (.int (2 : Int32)), .val (.ref ca), .val (.int ((2 : Int32) - (b01 (hiB (dr p0) && loB (dr p1))))), .unset, .unset, .unset] [.int ((2 : Int32) - (b01 (hiB (dr p0) && loB (dr p1)))), .int p5] := H349.iload at_184
        obtain ⟨mx, hmx⟩ : ∃ r, r = if p5 < ((2 : Int32) - (b01 (hiB (dr p0) && loB (dr p1)))) then ((2 : Int32) - (b01 (hiB (dr p0) && loB (dr p1)))) else p5 := ⟨_, rfl⟩
        obtain ⟨_, hq, _, ⟨rfl, rfl, eq⟩, Kq, H351⟩ := H350.callS (argsL := [.int p5, .int ((2 : Int32) - (b01 (hiB (dr p0) && loB (dr p1))))]) (rest := []) (Wr := 0) (ct_mmax hw x.l x.nar x.kn hnar hs1 p5 ((2 : Int32) - (b01 (hiB (dr p0) && loB (dr p1)))) mx hmx) sub0 (w6 hw) (w7 hw) (w8 hw) (w9 hw) at_186 pd_mmax rfl (hf := by first | decide | (simp [b_at, Bx.R]; done) | (simp [b_at, Bx.R]; omega)) (hl := by first | decide | (simp [b_at, Bx.R]; done) | (simp [b_at, Bx.R]; omega)) (hc := by first | decide | (simp [b_at, Bx.R]; done) | (simp [b_at, Bx.R]; omega)) (hs := by first | decide | (simp [b_at, Bx.R]; done) | (simp [b_at, Bx.R]; omega))
        rw [eq] at H351
        have H351 : Hr x b_at Z EL1 1 2 hs1 [ca] 189 #[.val (.int p0), .val (.int p1), .val (.int p2), .val (.int p3), .val (.int p4), .val (.int p5), .val (.int (2 : Int32)), .val (.ref ca), .val (.int ((2 : Int32) - (b01 (hiB (dr p0) && loB (dr p1))))), .unset, .unset, .unset] [.int mx] := H351
        have hge := max_ge hmx
        have hcnt : ((2 : Int32) - (b01 (hiB (dr p0) && loB (dr p1)))) = Int32.ofNat ([dr p0, dr p1].length - cpn [dr p0, dr p1]) := cnt2 (dr p0) (dr p1)
        rw [hcnt] at hge
        have hch : CHL [dr p0, dr p1] := fun c hc => by simp only [List.mem_cons, List.not_mem_nil, or_false] at hc; rcases hc with rfl | rfl <;> exact chr_dr _
        have hnz : ∀ c ∈ [dr p0, dr p1], ¬ c = 0 := fun c hc => by simp only [List.mem_cons, List.not_mem_nil, or_false] at hc; rcases hc with rfl | rfl; exact q0; exact q1
        have H352 : Hr x b_at Z EL1 1 2 hs1 [ca] 191 #[.val (.int p0), .val (.int p1), .val (.int p2), .val (.int p3), .val (.int p4), .val (.int p5), .val (.int (2 : Int32)), .val (.ref ca), .val (.int ((2 : Int32) - (b01 (hiB (dr p0) && loB (dr p1))))), .val (.int mx), .unset, .unset] [] := H351.istore at_189
        obtain ⟨h3, E3, ⟨X3, D3, U3⟩, H353⟩ := H352.new (w10 hw) (w11 hw) (w12 hw) at_191 (by first | decide | (simp [b_at, Bx.R]; done) | (simp [b_at, Bx.R]; omega)) (by first | decide | (simp [b_at, Bx.R]; done) | (simp [b_at, Bx.R]; omega))
        obtain ⟨s, g_s⟩ : ∃ z, z = hs1.size := ⟨_, rfl⟩
        rw [← g_s] at X3 D3 U3 H353
        have H353 : Hr x b_at Z EL1 2 6 h3 [s, ca] 194 #[.val (.int p0), .val (.int p1), .val (.int p2), .val (.int p3), .val (.int p4), .val (.int p5), .val (.int (2 : Int32)), .val (.ref ca), .val (.int ((2 : Int32) - (b01 (hiB (dr p0) && loB (dr p1))))), .val (.int mx), .unset, .unset] [.ref s] := H353
        have H354 : Hr x b_at Z EL1 2 6 h3 [s, ca] 195 #[.val (.int p0), .val (.int p1), .val (.int p2), .val (.int p3), .val (.int p4), .val (.int p5), .val (.int (2 : Int32)), .val (.ref ca), .val (.int ((2 : Int32) - (b01 (hiB (dr p0) && loB (dr p1))))), .val (.int mx), .unset, .unset] [.ref s, .ref s] := H353.dup at_194
        have H355 : Hr x b_at Z EL1 2 6 h3 [s, ca] 197 #[.val (.int p0), .val (.int p1), .val (.int p2), .val (.int p3), .val (.int p4), .val (.int p5), .val (.int (2 : Int32)), .val (.ref ca), .val (.int ((2 : Int32) - (b01 (hiB (dr p0) && loB (dr p1))))), .val (.int mx), .unset, .unset] [.ref ca, .ref s, .ref s] := H354.aload at_195
        have Fcd : Fld Z h3 s "java/lang/String" "coder" "B" (.int 0) := D3 (Or.inr (w55 hw)) (ty := .byte) (by decide)
        have Fvl : Fld Z h3 s "java/lang/String" "value" "[B" .null := D3 (Or.inr (w57 hw)) (ty := .array .byte) (by decide)
        obtain ⟨_, h4, _, ⟨rfl, rfl, Fs⟩, K4, H356⟩ := H355.callI (argsL := [.ref ca]) (rest := [.ref s]) (Wr := 1) (a := s) (ct_sini1 hw x.l x.nar x.kn hnar h3 s ca [dr p0, dr p1] X3 Fcd Fvl (Fc.ext E3) (by simp) (by simp) hch cz O hcz Sd Sh Sl) (sub1 (by simp)) (w13 hw) (w14 hw) (w12 hw) (w15 hw) at_197 pd_sini1 rfl (hf := by first | decide | (simp [b_at, Bx.R]; done) | (simp [b_at, Bx.R]; omega)) (hl := by first | decide | (simp [b_at, Bx.R]; done) | (simp [b_at, Bx.R]; omega)) (hc := by first | decide | (simp [b_at, Bx.R]; done) | (simp [b_at, Bx.R]; omega)) (hs := by first | decide | (simp [b_at, Bx.R]; done) | (simp [b_at, Bx.R]; omega))
        have H356 : Hr x b_at Z EL1 4 18 h4 [s, ca] 200 #[.val (.int p0), .val (.int p1), .val (.int p2), .val (.int p3), .val (.int p4), .val (.int p5), .val (.int (2 : Int32)), .val (.ref ca), .val (.int ((2 : Int32) - (b01 (hiB (dr p0) && loB (dr p1))))), .val (.int mx), .unset, .unset] [.ref s] := H356
        have H357 : Hr x b_at Z EL1 4 18 h4 [s, ca] 202 #[.val (.int p0), .val (.int p1), .val (.int p2), .val (.int p3), .val (.int p4), .val (.int p5), .val (.int (2 : Int32)), .val (.ref ca), .val (.int ((2 : Int32) - (b01 (hiB (dr p0) && loB (dr p1))))), .val (.int mx), .val (.ref s), .unset] [] := H356.astore at_200
        have H358 : Hr x b_at Z EL1 4 18 h4 [s, ca] 204 #[.val (.int p0), .val (.int p1), .val (.int p2), .val (.int p3), .val (.int p4), .val (.int p5), .val (.int (2 : Int32)), .val (.ref ca), .val (.int ((2 : Int32) - (b01 (hiB (dr p0) && loB (dr p1))))), .val (.int mx), .val (.ref s), .unset] [.ref s] := H357.aload at_202
        obtain ⟨nm, h5, E5, H359⟩ := H358.ldcO (n := 16) (w58 hw) (wStr hw) (ew hw) at_204 (by decide) (by decide) hnar (by decide) (by decide)
        have H359 : Hr x b_at Z EL1 6 38 h5 [s, ca] 206 #[.val (.int p0), .val (.int p1), .val (.int p2), .val (.int p3), .val (.int p4), .val (.int p5), .val (.int (2 : Int32)), .val (.ref ca), .val (.int ((2 : Int32) - (b01 (hiB (dr p0) && loB (dr p1))))), .val (.int mx), .val (.ref s), .unset] [.ref nm, .ref s] := H359
        have H360 : Hr x b_at Z EL1 6 38 h5 [s, ca] 208 #[.val (.int p0), .val (.int p1), .val (.int p2), .val (.int p3), .val (.int p4), .val (.int p5), .val (.int (2 : Int32)), .val (.ref ca), .val (.int ((2 : Int32) - (b01 (hiB (dr p0) && loB (dr p1))))), .val (.int mx), .val (.ref s), .unset] [.int mx, .ref nm, .ref s] := H359.iload at_206
        obtain ⟨_, h6, _, ⟨rfl, rfl, e6⟩, K6, H361⟩ := H360.callS (argsL := [.ref s, .ref nm, .int mx]) (rest := []) (Wr := 0) (ct_nchk hw x.l x.nar x.kn hnar h5 nm mx s [dr p0, dr p1] (Fs.ext E5) cz O hcz (by simp) (by simp) hch Sd Sh Sl hnz f hfr P hge) sub0 (w61 hw) (w62 hw) (w63 hw) (w64 hw) at_208 pd_nchk rfl (hf := by first | decide | (simp [b_at, Bx.R]; done) | (simp [b_at, Bx.R]; omega)) (hl := by first | decide | (simp [b_at, Bx.R]; done) | (simp [b_at, Bx.R]; omega)) (hc := by first | decide | (simp [b_at, Bx.R]; done) | (simp [b_at, Bx.R]; omega)) (hs := by first | decide | (simp [b_at, Bx.R]; done) | (simp [b_at, Bx.R]; omega))
        rw [e6] at H361
        have H361 : Hr x b_at Z EL1 6 38 h5 [s, ca] 211 #[.val (.int p0), .val (.int p1), .val (.int p2), .val (.int p3), .val (.int p4), .val (.int p5), .val (.int (2 : Int32)), .val (.ref ca), .val (.int ((2 : Int32) - (b01 (hiB (dr p0) && loB (dr p1))))), .val (.int mx), .val (.ref s), .unset] [.ref s] := H361
        have H362 : Hr x b_at Z EL1 6 38 h5 [s, ca] 213 #[.val (.int p0), .val (.int p1), .val (.int p2), .val (.int p3), .val (.int p4), .val (.int p5), .val (.int (2 : Int32)), .val (.ref ca), .val (.int ((2 : Int32) - (b01 (hiB (dr p0) && loB (dr p1))))), .val (.int mx), .val (.ref s), .val (.ref s)] [] := H361.astore at_211
        have H363 : Hr x b_at Z EL1 6 38 h5 [s, ca] 215 #[.val (.int p0), .val (.int p1), .val (.int p2), .val (.int p3), .val (.int p4), .val (.int p5), .val (.int (2 : Int32)), .val (.ref ca), .val (.int ((2 : Int32) - (b01 (hiB (dr p0) && loB (dr p1))))), .val (.int mx), .val (.ref s), .val (.ref s)] [.ref s] := H362.aload at_213
        have H364 : Hr x b_at Z EL1 6 38 h5 [s, ca] 217 #[.val (.int p0), .val (.int p1), .val (.int p2), .val (.int p3), .val (.int p4), .val (.int p5), .val (.int (2 : Int32)), .val (.ref ca), .val (.int ((2 : Int32) - (b01 (hiB (dr p0) && loB (dr p1))))), .val (.int mx), .val (.ref s), .val (.ref s)] [.ref s, .ref s] := H363.aload at_215
        have H365 : Hr x b_at Z EL1 6 38 h5 [s, ca] 220 #[.val (.int p0), .val (.int p1), .val (.int p2), .val (.int p3), .val (.int p4), .val (.int p5), .val (.int (2 : Int32)), .val (.ref ca), .val (.int ((2 : Int32) - (b01 (hiB (dr p0) && loB (dr p1))))), .val (.int mx), .val (.ref s), .val (.ref s)] [] := H364.acmpF at_217 (by simp [XT.acmp])
        have H366 : Hr x b_at Z EL1 6 38 h5 [s, ca] 221 #[.val (.int p0), .val (.int p1), .val (.int p2), .val (.int p3), .val (.int p4), .val (.int p5), .val (.int (2 : Int32)), .val (.ref ca), .val (.int ((2 : Int32) - (b01 (hiB (dr p0) && loB (dr p1))))), .val (.int mx), .val (.ref s), .val (.ref s)] [.int (1 : Int32)] := H365.iconst at_220
        have H367 : Hr x b_at Z EL1 6 38 h5 [s, ca] 225 #[.val (.int p0), .val (.int p1), .val (.int p2), .val (.int p3), .val (.int p4), .val (.int p5), .val (.int (2 : Int32)), .val (.ref ca), .val (.int ((2 : Int32) - (b01 (hiB (dr p0) && loB (dr p1))))), .val (.int mx), .val (.ref s), .val (.ref s)] [.int (1 : Int32)] := H366.goto at_221
        exact H367.finZ at_225 (t := .boolean) (by first | rfl | decide) ⟨rfl, rfl⟩ sub0
  · have z367 := True.intro
    have H368 : Hr x b_at Z EL1 0 0 h0 [] 1 #[.val (.int p0), .val (.int p1), .val (.int p2), .val (.int p3), .val (.int p4), .val (.int p5), .unset, .unset, .unset, .unset, .unset, .unset] [.int (1 : Int32)] := H0.iconst at_0
    have H369 : Hr x b_at Z EL1 0 0 h0 [] 3 #[.val (.int p0), .val (.int p1), .val (.int p2), .val (.int p3), .val (.int p4), .val (.int p5), .unset, .unset, .unset, .unset, .unset, .unset] [.int p4, .int (1 : Int32)] := H368.iload at_1
    have H370 : Hr x b_at Z EL1 0 0 h0 [] 4 #[.val (.int p0), .val (.int p1), .val (.int p2), .val (.int p3), .val (.int p4), .val (.int p5), .unset, .unset, .unset, .unset, .unset, .unset] [.int (3 : Int32), .int p4, .int (1 : Int32)] := H369.iconst at_3
    have H371 : Hr x b_at Z EL1 0 0 h0 [] 5 #[.val (.int p0), .val (.int p1), .val (.int p2), .val (.int p3), .val (.int p4), .val (.int p5), .unset, .unset, .unset, .unset, .unset, .unset] [.int (p4 &&& (3 : Int32)), .int (1 : Int32)] := H370.iand at_4
    have H372 : Hr x b_at Z EL1 0 0 h0 [] 6 #[.val (.int p0), .val (.int p1), .val (.int p2), .val (.int p3), .val (.int p4), .val (.int p5), .unset, .unset, .unset, .unset, .unset, .unset] [.int (3 : Int32)] := H371.iadd at_5 (hv := (by rw [hm]; decide))
    have H373 : Hr x b_at Z EL1 0 0 h0 [] 8 #[.val (.int p0), .val (.int p1), .val (.int p2), .val (.int p3), .val (.int p4), .val (.int p5), .val (.int (3 : Int32)), .unset, .unset, .unset, .unset, .unset] [] := H372.istore at_6
    have H374 : Hr x b_at Z EL1 0 0 h0 [] 10 #[.val (.int p0), .val (.int p1), .val (.int p2), .val (.int p3), .val (.int p4), .val (.int p5), .val (.int (3 : Int32)), .unset, .unset, .unset, .unset, .unset] [.int (3 : Int32)] := H373.iload at_8
    obtain ⟨h1, E1, Fc, H375⟩ := H374.newarray (aty := .char) (cap := 3) (w0 hw) at_10 (by decide) (by decide) (by decide) (by first | decide | (simp [b_at, Bx.R]; done) | (simp [b_at, Bx.R]; omega)) (by first | decide | (simp [b_at, Bx.R]; done) | (simp [b_at, Bx.R]; omega))
    obtain ⟨ca, g_ca⟩ : ∃ z, z = h0.size := ⟨_, rfl⟩
    rw [← g_ca] at Fc H375
    have Fc : Ar Z h1 ca .char (List.replicate 3 (.int 0)) := Fc
    have H375 : Hr x b_at Z EL1 1 3 h1 [ca] 12 #[.val (.int p0), .val (.int p1), .val (.int p2), .val (.int p3), .val (.int p4), .val (.int p5), .val (.int (3 : Int32)), .unset, .unset, .unset, .unset, .unset] [.ref ca] := H375
    have H376 : Hr x b_at Z EL1 1 3 h1 [ca] 14 #[.val (.int p0), .val (.int p1), .val (.int p2), .val (.int p3), .val (.int p4), .val (.int p5), .val (.int (3 : Int32)), .val (.ref ca), .unset, .unset, .unset, .unset] [] := H375.astore at_12
    have H377 : Hr x b_at Z EL1 1 3 h1 [ca] 16 #[.val (.int p0), .val (.int p1), .val (.int p2), .val (.int p3), .val (.int p4), .val (.int p5), .val (.int (3 : Int32)), .val (.ref ca), .unset, .unset, .unset, .unset] [.ref ca] := H376.aload at_14
    have H378 : Hr x b_at Z EL1 1 3 h1 [ca] 17 #[.val (.int p0), .val (.int p1), .val (.int p2), .val (.int p3), .val (.int p4), .val (.int p5), .val (.int (3 : Int32)), .val (.ref ca), .unset, .unset, .unset, .unset] [.int (0 : Int32), .ref ca] := H377.iconst at_16
    have H379 : Hr x b_at Z EL1 1 3 h1 [ca] 18 #[.val (.int p0), .val (.int p1), .val (.int p2), .val (.int p3), .val (.int p4), .val (.int p5), .val (.int (3 : Int32)), .val (.ref ca), .unset, .unset, .unset, .unset] [.int p0, .int (0 : Int32), .ref ca] := H378.iloadN at_17
    obtain ⟨_, hd0, _, ⟨rfl, rfl, ed0⟩, Kd0, H380⟩ := H379.callS (argsL := [.int p0]) (rest := [.int (0 : Int32), .ref ca]) (Wr := 2) (ct_draw hw x.l x.nar x.kn hnar h1 p0) sub0 (w1 hw) (w2 hw) (w3 hw) (w4 hw) at_18 pd_draw rfl (hf := by first | decide | (simp [b_at, Bx.R]; done) | (simp [b_at, Bx.R]; omega)) (hl := by first | decide | (simp [b_at, Bx.R]; done) | (simp [b_at, Bx.R]; omega)) (hc := by first | decide | (simp [b_at, Bx.R]; done) | (simp [b_at, Bx.R]; omega)) (hs := by first | decide | (simp [b_at, Bx.R]; done) | (simp [b_at, Bx.R]; omega))
    rw [ed0] at H380
    have H380 : Hr x b_at Z EL1 1 3 h1 [ca] 21 #[.val (.int p0), .val (.int p1), .val (.int p2), .val (.int p3), .val (.int p4), .val (.int p5), .val (.int (3 : Int32)), .val (.ref ca), .unset, .unset, .unset, .unset] [.int (dr p0), .int (0 : Int32), .ref ca] := H380
    obtain ⟨hs0, Ws0, H381⟩ := H380.castore (by simp) Fc at_21 (i := 0) rfl (by simp) (hw := (chr_dr p0).nar)
    have H381 : Hr x b_at Z EL1 1 3 hs0 [ca] 22 #[.val (.int p0), .val (.int p1), .val (.int p2), .val (.int p3), .val (.int p4), .val (.int p5), .val (.int (3 : Int32)), .val (.ref ca), .unset, .unset, .unset, .unset] [] := H381
    have Fc : Ar Z hs0 ca .char [.int (dr p0), .int 0, .int 0] := Fc.set Ws0
    have H382 : Hr x b_at Z EL1 1 3 hs0 [ca] 24 #[.val (.int p0), .val (.int p1), .val (.int p2), .val (.int p3), .val (.int p4), .val (.int p5), .val (.int (3 : Int32)), .val (.ref ca), .unset, .unset, .unset, .unset] [.int (3 : Int32)] := H381.iload at_22
    have H383 : Hr x b_at Z EL1 1 3 hs0 [ca] 25 #[.val (.int p0), .val (.int p1), .val (.int p2), .val (.int p3), .val (.int p4), .val (.int p5), .val (.int (3 : Int32)), .val (.ref ca), .unset, .unset, .unset, .unset] [.int (1 : Int32), .int (3 : Int32)] := H382.iconst at_24
    have H384 : Hr x b_at Z EL1 1 3 hs0 [ca] 28 #[.val (.int p0), .val (.int p1), .val (.int p2), .val (.int p3), .val (.int p4), .val (.int p5), .val (.int (3 : Int32)), .val (.ref ca), .unset, .unset, .unset, .unset] [] := H383.icmpF at_25 (XT.ii_le_f (by decide))
    have H385 : Hr x b_at Z EL1 1 3 hs0 [ca] 30 #[.val (.int p0), .val (.int p1), .val (.int p2), .val (.int p3), .val (.int p4), .val (.int p5), .val (.int (3 : Int32)), .val (.ref ca), .unset, .unset, .unset, .unset] [.ref ca] := H384.aload at_28
    have H386 : Hr x b_at Z EL1 1 3 hs0 [ca] 31 #[.val (.int p0), .val (.int p1), .val (.int p2), .val (.int p3), .val (.int p4), .val (.int p5), .val (.int (3 : Int32)), .val (.ref ca), .unset, .unset, .unset, .unset] [.int (1 : Int32), .ref ca] := H385.iconst at_30
    have H387 : Hr x b_at Z EL1 1 3 hs0 [ca] 32 #[.val (.int p0), .val (.int p1), .val (.int p2), .val (.int p3), .val (.int p4), .val (.int p5), .val (.int (3 : Int32)), .val (.ref ca), .unset, .unset, .unset, .unset] [.int p1, .int (1 : Int32), .ref ca] := H386.iloadN at_31
    obtain ⟨_, hd1, _, ⟨rfl, rfl, ed1⟩, Kd1, H388⟩ := H387.callS (argsL := [.int p1]) (rest := [.int (1 : Int32), .ref ca]) (Wr := 2) (ct_draw hw x.l x.nar x.kn hnar hs0 p1) sub0 (w1 hw) (w2 hw) (w3 hw) (w4 hw) at_32 pd_draw rfl (hf := by first | decide | (simp [b_at, Bx.R]; done) | (simp [b_at, Bx.R]; omega)) (hl := by first | decide | (simp [b_at, Bx.R]; done) | (simp [b_at, Bx.R]; omega)) (hc := by first | decide | (simp [b_at, Bx.R]; done) | (simp [b_at, Bx.R]; omega)) (hs := by first | decide | (simp [b_at, Bx.R]; done) | (simp [b_at, Bx.R]; omega))
    rw [ed1] at H388
    have H388 : Hr x b_at Z EL1 1 3 hs0 [ca] 35 #[.val (.int p0), .val (.int p1), .val (.int p2), .val (.int p3), .val (.int p4), .val (.int p5), .val (.int (3 : Int32)), .val (.ref ca), .unset, .unset, .unset, .unset] [.int (dr p1), .int (1 : Int32), .ref ca] := H388
    obtain ⟨hs1, Ws1, H389⟩ := H388.castore (by simp) Fc at_35 (i := 1) rfl (by simp) (hw := (chr_dr p1).nar)
    have H389 : Hr x b_at Z EL1 1 3 hs1 [ca] 36 #[.val (.int p0), .val (.int p1), .val (.int p2), .val (.int p3), .val (.int p4), .val (.int p5), .val (.int (3 : Int32)), .val (.ref ca), .unset, .unset, .unset, .unset] [] := H389
    have Fc : Ar Z hs1 ca .char [.int (dr p0), .int (dr p1), .int 0] := Fc.set Ws1
    have H390 : Hr x b_at Z EL1 1 3 hs1 [ca] 38 #[.val (.int p0), .val (.int p1), .val (.int p2), .val (.int p3), .val (.int p4), .val (.int p5), .val (.int (3 : Int32)), .val (.ref ca), .unset, .unset, .unset, .unset] [.int (3 : Int32)] := H389.iload at_36
    have H391 : Hr x b_at Z EL1 1 3 hs1 [ca] 39 #[.val (.int p0), .val (.int p1), .val (.int p2), .val (.int p3), .val (.int p4), .val (.int p5), .val (.int (3 : Int32)), .val (.ref ca), .unset, .unset, .unset, .unset] [.int (2 : Int32), .int (3 : Int32)] := H390.iconst at_38
    have H392 : Hr x b_at Z EL1 1 3 hs1 [ca] 42 #[.val (.int p0), .val (.int p1), .val (.int p2), .val (.int p3), .val (.int p4), .val (.int p5), .val (.int (3 : Int32)), .val (.ref ca), .unset, .unset, .unset, .unset] [] := H391.icmpF at_39 (XT.ii_le_f (by decide))
    have H393 : Hr x b_at Z EL1 1 3 hs1 [ca] 44 #[.val (.int p0), .val (.int p1), .val (.int p2), .val (.int p3), .val (.int p4), .val (.int p5), .val (.int (3 : Int32)), .val (.ref ca), .unset, .unset, .unset, .unset] [.ref ca] := H392.aload at_42
    have H394 : Hr x b_at Z EL1 1 3 hs1 [ca] 45 #[.val (.int p0), .val (.int p1), .val (.int p2), .val (.int p3), .val (.int p4), .val (.int p5), .val (.int (3 : Int32)), .val (.ref ca), .unset, .unset, .unset, .unset] [.int (2 : Int32), .ref ca] := H393.iconst at_44
    have H395 : Hr x b_at Z EL1 1 3 hs1 [ca] 46 #[.val (.int p0), .val (.int p1), .val (.int p2), .val (.int p3), .val (.int p4), .val (.int p5), .val (.int (3 : Int32)), .val (.ref ca), .unset, .unset, .unset, .unset] [.int p2, .int (2 : Int32), .ref ca] := H394.iloadN at_45
    obtain ⟨_, hd2, _, ⟨rfl, rfl, ed2⟩, Kd2, H396⟩ := H395.callS (argsL := [.int p2]) (rest := [.int (2 : Int32), .ref ca]) (Wr := 2) (ct_draw hw x.l x.nar x.kn hnar hs1 p2) sub0 (w1 hw) (w2 hw) (w3 hw) (w4 hw) at_46 pd_draw rfl (hf := by first | decide | (simp [b_at, Bx.R]; done) | (simp [b_at, Bx.R]; omega)) (hl := by first | decide | (simp [b_at, Bx.R]; done) | (simp [b_at, Bx.R]; omega)) (hc := by first | decide | (simp [b_at, Bx.R]; done) | (simp [b_at, Bx.R]; omega)) (hs := by first | decide | (simp [b_at, Bx.R]; done) | (simp [b_at, Bx.R]; omega))
    rw [ed2] at H396
    have H396 : Hr x b_at Z EL1 1 3 hs1 [ca] 49 #[.val (.int p0), .val (.int p1), .val (.int p2), .val (.int p3), .val (.int p4), .val (.int p5), .val (.int (3 : Int32)), .val (.ref ca), .unset, .unset, .unset, .unset] [.int (dr p2), .int (2 : Int32), .ref ca] := H396
    obtain ⟨hs2, Ws2, H397⟩ := H396.castore (by simp) Fc at_49 (i := 2) rfl (by simp) (hw := (chr_dr p2).nar)
    have H397 : Hr x b_at Z EL1 1 3 hs2 [ca] 50 #[.val (.int p0), .val (.int p1), .val (.int p2), .val (.int p3), .val (.int p4), .val (.int p5), .val (.int (3 : Int32)), .val (.ref ca), .unset, .unset, .unset, .unset] [] := H397
    have Fc : Ar Z hs2 ca .char [.int (dr p0), .int (dr p1), .int (dr p2)] := Fc.set Ws2
    have H398 : Hr x b_at Z EL1 1 3 hs2 [ca] 52 #[.val (.int p0), .val (.int p1), .val (.int p2), .val (.int p3), .val (.int p4), .val (.int p5), .val (.int (3 : Int32)), .val (.ref ca), .unset, .unset, .unset, .unset] [.int (3 : Int32)] := H397.iload at_50
    have H399 : Hr x b_at Z EL1 1 3 hs2 [ca] 53 #[.val (.int p0), .val (.int p1), .val (.int p2), .val (.int p3), .val (.int p4), .val (.int p5), .val (.int (3 : Int32)), .val (.ref ca), .unset, .unset, .unset, .unset] [.int (3 : Int32), .int (3 : Int32)] := H398.iconst at_52
    have H400 : Hr x b_at Z EL1 1 3 hs2 [ca] 64 #[.val (.int p0), .val (.int p1), .val (.int p2), .val (.int p3), .val (.int p4), .val (.int p5), .val (.int (3 : Int32)), .val (.ref ca), .unset, .unset, .unset, .unset] [] := H399.icmpT at_53 (XT.ii_le_t (by decide))
    have H401 : Hr x b_at Z EL1 1 3 hs2 [ca] 66 #[.val (.int p0), .val (.int p1), .val (.int p2), .val (.int p3), .val (.int p4), .val (.int p5), .val (.int (3 : Int32)), .val (.ref ca), .unset, .unset, .unset, .unset] [.ref ca] := H400.aload at_64
    have H402 : Hr x b_at Z EL1 1 3 hs2 [ca] 67 #[.val (.int p0), .val (.int p1), .val (.int p2), .val (.int p3), .val (.int p4), .val (.int p5), .val (.int (3 : Int32)), .val (.ref ca), .unset, .unset, .unset, .unset] [.int (0 : Int32), .ref ca] := H401.iconst at_66
    have H403 : Hr x b_at Z EL1 1 3 hs2 [ca] 68 #[.val (.int p0), .val (.int p1), .val (.int p2), .val (.int p3), .val (.int p4), .val (.int p5), .val (.int (3 : Int32)), .val (.ref ca), .unset, .unset, .unset, .unset] [.int (dr p0)] := H402.caload Fc at_67 (i := 0) rfl rfl
    by_cases q0 : dr p0 = 0
    · have z403 := q0
      have H404 : Hr x b_at Z EL1 1 3 hs2 [ca] 110 #[.val (.int p0), .val (.int p1), .val (.int p2), .val (.int p3), .val (.int p4), .val (.int p5), .val (.int (3 : Int32)), .val (.ref ca), .unset, .unset, .unset, .unset] [] := H403.ifT at_68 (XT.i0_eq_t q0)
      have H405 : Hr x b_at Z EL1 1 3 hs2 [ca] 111 #[.val (.int p0), .val (.int p1), .val (.int p2), .val (.int p3), .val (.int p4), .val (.int p5), .val (.int (3 : Int32)), .val (.ref ca), .unset, .unset, .unset, .unset] [.int (1 : Int32)] := H404.iconst at_110
      exact H405.finZ at_111 (t := .boolean) (by first | rfl | decide) ⟨rfl, rfl⟩ sub0
    · have z405 := q0
      have H406 : Hr x b_at Z EL1 1 3 hs2 [ca] 71 #[.val (.int p0), .val (.int p1), .val (.int p2), .val (.int p3), .val (.int p4), .val (.int p5), .val (.int (3 : Int32)), .val (.ref ca), .unset, .unset, .unset, .unset] [] := H403.ifF at_68 (XT.i0_eq_f q0)
      have H407 : Hr x b_at Z EL1 1 3 hs2 [ca] 73 #[.val (.int p0), .val (.int p1), .val (.int p2), .val (.int p3), .val (.int p4), .val (.int p5), .val (.int (3 : Int32)), .val (.ref ca), .unset, .unset, .unset, .unset] [.int (3 : Int32)] := H406.iload at_71
      have H408 : Hr x b_at Z EL1 1 3 hs2 [ca] 74 #[.val (.int p0), .val (.int p1), .val (.int p2), .val (.int p3), .val (.int p4), .val (.int p5), .val (.int (3 : Int32)), .val (.ref ca), .unset, .unset, .unset, .unset] [.int (1 : Int32), .int (3 : Int32)] := H407.iconst at_73
      have H409 : Hr x b_at Z EL1 1 3 hs2 [ca] 77 #[.val (.int p0), .val (.int p1), .val (.int p2), .val (.int p3), .val (.int p4), .val (.int p5), .val (.int (3 : Int32)), .val (.ref ca), .unset, .unset, .unset, .unset] [] := H408.icmpF at_74 (XT.ii_le_f (by decide))
      have H410 : Hr x b_at Z EL1 1 3 hs2 [ca] 79 #[.val (.int p0), .val (.int p1), .val (.int p2), .val (.int p3), .val (.int p4), .val (.int p5), .val (.int (3 : Int32)), .val (.ref ca), .unset, .unset, .unset, .unset] [.ref ca] := H409.aload at_77
      have H411 : Hr x b_at Z EL1 1 3 hs2 [ca] 80 #[.val (.int p0), .val (.int p1), .val (.int p2), .val (.int p3), .val (.int p4), .val (.int p5), .val (.int (3 : Int32)), .val (.ref ca), .unset, .unset, .unset, .unset] [.int (1 : Int32), .ref ca] := H410.iconst at_79
      have H412 : Hr x b_at Z EL1 1 3 hs2 [ca] 81 #[.val (.int p0), .val (.int p1), .val (.int p2), .val (.int p3), .val (.int p4), .val (.int p5), .val (.int (3 : Int32)), .val (.ref ca), .unset, .unset, .unset, .unset] [.int (dr p1)] := H411.caload Fc at_80 (i := 1) rfl rfl
      by_cases q1 : dr p1 = 0
      · have z412 := q1
        have H413 : Hr x b_at Z EL1 1 3 hs2 [ca] 110 #[.val (.int p0), .val (.int p1), .val (.int p2), .val (.int p3), .val (.int p4), .val (.int p5), .val (.int (3 : Int32)), .val (.ref ca), .unset, .unset, .unset, .unset] [] := H412.ifT at_81 (XT.i0_eq_t q1)
        have H414 : Hr x b_at Z EL1 1 3 hs2 [ca] 111 #[.val (.int p0), .val (.int p1), .val (.int p2), .val (.int p3), .val (.int p4), .val (.int p5), .val (.int (3 : Int32)), .val (.ref ca), .unset, .unset, .unset, .unset] [.int (1 : Int32)] := H413.iconst at_110
        exact H414.finZ at_111 (t := .boolean) (by first | rfl | decide) ⟨rfl, rfl⟩ sub0
      · have z414 := q1
        have H415 : Hr x b_at Z EL1 1 3 hs2 [ca] 84 #[.val (.int p0), .val (.int p1), .val (.int p2), .val (.int p3), .val (.int p4), .val (.int p5), .val (.int (3 : Int32)), .val (.ref ca), .unset, .unset, .unset, .unset] [] := H412.ifF at_81 (XT.i0_eq_f q1)
        have H416 : Hr x b_at Z EL1 1 3 hs2 [ca] 86 #[.val (.int p0), .val (.int p1), .val (.int p2), .val (.int p3), .val (.int p4), .val (.int p5), .val (.int (3 : Int32)), .val (.ref ca), .unset, .unset, .unset, .unset] [.int (3 : Int32)] := H415.iload at_84
        have H417 : Hr x b_at Z EL1 1 3 hs2 [ca] 87 #[.val (.int p0), .val (.int p1), .val (.int p2), .val (.int p3), .val (.int p4), .val (.int p5), .val (.int (3 : Int32)), .val (.ref ca), .unset, .unset, .unset, .unset] [.int (2 : Int32), .int (3 : Int32)] := H416.iconst at_86
        have H418 : Hr x b_at Z EL1 1 3 hs2 [ca] 90 #[.val (.int p0), .val (.int p1), .val (.int p2), .val (.int p3), .val (.int p4), .val (.int p5), .val (.int (3 : Int32)), .val (.ref ca), .unset, .unset, .unset, .unset] [] := H417.icmpF at_87 (XT.ii_le_f (by decide))
        have H419 : Hr x b_at Z EL1 1 3 hs2 [ca] 92 #[.val (.int p0), .val (.int p1), .val (.int p2), .val (.int p3), .val (.int p4), .val (.int p5), .val (.int (3 : Int32)), .val (.ref ca), .unset, .unset, .unset, .unset] [.ref ca] := H418.aload at_90
        have H420 : Hr x b_at Z EL1 1 3 hs2 [ca] 93 #[.val (.int p0), .val (.int p1), .val (.int p2), .val (.int p3), .val (.int p4), .val (.int p5), .val (.int (3 : Int32)), .val (.ref ca), .unset, .unset, .unset, .unset] [.int (2 : Int32), .ref ca] := H419.iconst at_92
        have H421 : Hr x b_at Z EL1 1 3 hs2 [ca] 94 #[.val (.int p0), .val (.int p1), .val (.int p2), .val (.int p3), .val (.int p4), .val (.int p5), .val (.int (3 : Int32)), .val (.ref ca), .unset, .unset, .unset, .unset] [.int (dr p2)] := H420.caload Fc at_93 (i := 2) rfl rfl
        by_cases q2 : dr p2 = 0
        · have z421 := q2
          have H422 : Hr x b_at Z EL1 1 3 hs2 [ca] 110 #[.val (.int p0), .val (.int p1), .val (.int p2), .val (.int p3), .val (.int p4), .val (.int p5), .val (.int (3 : Int32)), .val (.ref ca), .unset, .unset, .unset, .unset] [] := H421.ifT at_94 (XT.i0_eq_t q2)
          have H423 : Hr x b_at Z EL1 1 3 hs2 [ca] 111 #[.val (.int p0), .val (.int p1), .val (.int p2), .val (.int p3), .val (.int p4), .val (.int p5), .val (.int (3 : Int32)), .val (.ref ca), .unset, .unset, .unset, .unset] [.int (1 : Int32)] := H422.iconst at_110
          exact H423.finZ at_111 (t := .boolean) (by first | rfl | decide) ⟨rfl, rfl⟩ sub0
        · have z423 := q2
          have H424 : Hr x b_at Z EL1 1 3 hs2 [ca] 97 #[.val (.int p0), .val (.int p1), .val (.int p2), .val (.int p3), .val (.int p4), .val (.int p5), .val (.int (3 : Int32)), .val (.ref ca), .unset, .unset, .unset, .unset] [] := H421.ifF at_94 (XT.i0_eq_f q2)
          have H425 : Hr x b_at Z EL1 1 3 hs2 [ca] 99 #[.val (.int p0), .val (.int p1), .val (.int p2), .val (.int p3), .val (.int p4), .val (.int p5), .val (.int (3 : Int32)), .val (.ref ca), .unset, .unset, .unset, .unset] [.int (3 : Int32)] := H424.iload at_97
          have H426 : Hr x b_at Z EL1 1 3 hs2 [ca] 100 #[.val (.int p0), .val (.int p1), .val (.int p2), .val (.int p3), .val (.int p4), .val (.int p5), .val (.int (3 : Int32)), .val (.ref ca), .unset, .unset, .unset, .unset] [.int (3 : Int32), .int (3 : Int32)] := H425.iconst at_99
          have H427 : Hr x b_at Z EL1 1 3 hs2 [ca] 112 #[.val (.int p0), .val (.int p1), .val (.int p2), .val (.int p3), .val (.int p4), .val (.int p5), .val (.int (3 : Int32)), .val (.ref ca), .unset, .unset, .unset, .unset] [] := H426.icmpT at_100 (XT.ii_le_t (by decide))
          have H428 : Hr x b_at Z EL1 1 3 hs2 [ca] 114 #[.val (.int p0), .val (.int p1), .val (.int p2), .val (.int p3), .val (.int p4), .val (.int p5), .val (.int (3 : Int32)), .val (.ref ca), .unset, .unset, .unset, .unset] [.int (3 : Int32)] := H427.iload at_112
          have H429 : Hr x b_at Z EL1 1 3 hs2 [ca] 116 #[.val (.int p0), .val (.int p1), .val (.int p2), .val (.int p3), .val (.int p4), .val (.int p5), .val (.int (3 : Int32)), .val (.ref ca), .val (.int (3 : Int32)), .unset, .unset, .unset] [] := H428.istore at_114
          have H430 : Hr x b_at Z EL1 1 3 hs2 [ca] 118 #[.val (.int p0), .val (.int p1), .val (.int p2), .val (.int p3), .val (.int p4), .val (.int p5), .val (.int (3 : Int32)), .val (.ref ca), .val (.int (3 : Int32)), .unset, .unset, .unset] [.int (3 : Int32)] := H429.iload at_116
          have H431 : Hr x b_at Z EL1 1 3 hs2 [ca] 119 #[.val (.int p0), .val (.int p1), .val (.int p2), .val (.int p3), .val (.int p4), .val (.int p5), .val (.int (3 : Int32)), .val (.ref ca), .val (.int (3 : Int32)), .unset, .unset, .unset] [.int (1 : Int32), .int (3 : Int32)] := H430.iconst at_118
          have H432 : Hr x b_at Z EL1 1 3 hs2 [ca] 122 #[.val (.int p0), .val (.int p1), .val (.int p2), .val (.int p3), .val (.int p4), .val (.int p5), .val (.int (3 : Int32)), .val (.ref ca), .val (.int (3 : Int32)), .unset, .unset, .unset] [] := H431.icmpF at_119 (XT.ii_le_f (by decide))
          have H433 : Hr x b_at Z EL1 1 3 hs2 [ca] 124 #[.val (.int p0), .val (.int p1), .val (.int p2), .val (.int p3), .val (.int p4), .val (.int p5), .val (.int (3 : Int32)), .val (.ref ca), .val (.int (3 : Int32)), .unset, .unset, .unset] [.int (3 : Int32)] := H432.iload at_122
          have H434 : Hr x b_at Z EL1 1 3 hs2 [ca] 126 #[.val (.int p0), .val (.int p1), .val (.int p2), .val (.int p3), .val (.int p4), .val (.int p5), .val (.int (3 : Int32)), .val (.ref ca), .val (.int (3 : Int32)), .unset, .unset, .unset] [.ref ca, .int (3 : Int32)] := H433.aload at_124
          have H435 : Hr x b_at Z EL1 1 3 hs2 [ca] 127 #[.val (.int p0), .val (.int p1), .val (.int p2), .val (.int p3), .val (.int p4), .val (.int p5), .val (.int (3 : Int32)), .val (.ref ca), .val (.int (3 : Int32)), .unset, .unset, .unset] [.int (0 : Int32), .ref ca, .int (3 : Int32)] := H434.iconst at_126
          have H436 : Hr x b_at Z EL1 1 3 hs2 [ca] 128 #[.val (.int p0), .val (.int p1), .val (.int p2), .val (.int p3), .val (.int p4), .val (.int p5), .val (.int (3 : Int32)), .val (.ref ca), .val (.int (3 : Int32)), .unset, .unset, .unset] [.int (dr p0), .int (3 : Int32)] := H435.caload Fc at_127 (i := 0) rfl rfl
          have H437 : Hr x b_at Z EL1 1 3 hs2 [ca] 130 #[.val (.int p0), .val (.int p1), .val (.int p2), .val (.int p3), .val (.int p4), .val (.int p5), .val (.int (3 : Int32)), .val (.ref ca), .val (.int (3 : Int32)), .unset, .unset, .unset] [.ref ca, .int (dr p0), .int (3 : Int32)] := H436.aload at_128
          have H438 : Hr x b_at Z EL1 1 3 hs2 [ca] 131 #[.val (.int p0), .val (.int p1), .val (.int p2), .val (.int p3), .val (.int p4), .val (.int p5), .val (.int (3 : Int32)), .val (.ref ca), .val (.int (3 : Int32)), .unset, .unset, .unset] [.int (1 : Int32), .ref ca, .int (dr p0), .int (3 : Int32)] := H437.iconst at_130
          have H439 : Hr x b_at Z EL1 1 3 hs2 [ca] 132 #[.val (.int p0), .val (.int p1), .val (.int p2), .val (.int p3), .val (.int p4), .val (.int p5), .val (.int (3 : Int32)), .val (.ref ca), .val (.int (3 : Int32)), .unset, .unset, .unset] [.int (dr p1), .int (dr p0), .int (3 : Int32)] := H438.caload Fc at_131 (i := 1) rfl rfl
          obtain ⟨_, hp0, _, ⟨rfl, rfl, ep0⟩, Kp0, H440⟩ := H439.callS (argsL := [.int (dr p0), .int (dr p1)]) (rest := [.int (3 : Int32)]) (Wr := 1) (ct_pair hw x.l x.nar x.kn hnar hs2 (dr p0) (dr p1)) sub0 (w140 hw) (w141 hw) (w3 hw) (w142 hw) at_132 pd_pair rfl (hf := by first | decide | (simp [b_at, Bx.R]; done) | (simp [b_at, Bx.R]; omega)) (hl := by first | decide | (simp [b_at, Bx.R]; done) | (simp [b_at, Bx.R]; omega)) (hc := by first | decide | (simp [b_at, Bx.R]; done) | (simp [b_at, Bx.R]; omega)) (hs := by first | decide | (simp [b_at, Bx.R]; done) | (simp [b_at, Bx.R]; omega))
          rw [ep0] at H440
          have H440 : Hr x b_at Z EL1 1 3 hs2 [ca] 135 #[.val (.int p0), .val (.int p1), .val (.int p2), .val (.int p3), .val (.int p4), .val (.int p5), .val (.int (3 : Int32)), .val (.ref ca), .val (.int (3 : Int32)), .unset, .unset, .unset] [.int (b01 (hiB (dr p0) && loB (dr p1))), .int (3 : Int32)] := H440
          have H441 : Hr x b_at Z EL1 1 3 hs2 [ca] 136 #[.val (.int p0), .val (.int p1), .val (.int p2), .val (.int p3), .val (.int p4), .val (.int p5), .val (.int (3 : Int32)), .val (.ref ca), .val (.int (3 : Int32)), .unset, .unset, .unset] [.int ((3 : Int32) - (b01 (hiB (dr p0) && loB (dr p1))))] := H440.isub at_135
          have H442 : Hr x b_at Z EL1 1 3 hs2 [ca] 138 #[.val (.int p0), .val (.int p1), .val (.int p2), .val (.int p3), .val (.int p4), .val (.int p5), .val (.int (3 : Int32)), .val (.ref ca), .val (.int ((3 : Int32) - (b01 (hiB (dr p0) && loB (dr p1))))), .unset, .unset, .unset] [] := H441.istore at_136
          have H443 : Hr x b_at Z EL1 1 3 hs2 [ca] 140 #[.val (.int p0), .val (.int p1), .val (.int p2), .val (.int p3), .val (.int p4), .val (.int p5), .val (.int (3 : Int32)), .val (.ref ca), .val (.int ((3 : Int32) - (b01 (hiB (dr p0) && loB (dr p1))))), .unset, .unset, .unset] [.int (3 : Int32)] := H442.iload at_138
          have H444 : Hr x b_at Z EL1 1 3 hs2 [ca] 141 #[.val (.int p0), .val (.int p1), .val (.int p2), .val (.int p3), .val (.int p4), .val (.int p5), .val (.int (3 : Int32)), .val (.ref ca), .val (.int ((3 : Int32) - (b01 (hiB (dr p0) && loB (dr p1))))), .unset, .unset, .unset] [.int (2 : Int32), .int (3 : Int32)] := H443.iconst at_140
          have H445 : Hr x b_at Z EL1 1 3 hs2 [ca] 144 #[.val (.int p0), .val (.int p1), .val (.int p2), .val (.int p3), .val (.int p4), .val (.int p5), .val (.int (3 : Int32)), .val (.ref ca), .val (.int ((3 : Int32) - (b01 (hiB (dr p0) && loB (dr p1))))), .unset, .unset, .unset] [] := H444.icmpF at_141 (XT.ii_le_f (by decide))
          have H446 : Hr x b_at Z EL1 1 3 hs2 [ca] 146 #[.val (.int p0), .val (.int p1), .val (.int p2), .val (.int p3), .val (.int p4), .val (.int p5), .val (.int (3 : Int32)), .val (.ref ca), .val (.int ((3 : Int32) - (b01 (hiB (dr p0) && loB (dr p1))))), .unset, .unset, .unset] [.int ((3 : Int32) - (b01 (hiB (dr p0) && loB (dr p1))))] := H445.iload at_144
          have H447 : Hr x b_at Z EL1 1 3 hs2 [ca] 148 #[.val (.int p0), .val (.int p1), .val (.int p2), .val (.int p3), .val (.int p4), .val (.int p5), .val (.int (3 : Int32)), .val (.ref ca), .val (.int ((3 : Int32) - (b01 (hiB (dr p0) && loB (dr p1))))), .unset, .unset, .unset] [.ref ca, .int ((3 : Int32) - (b01 (hiB (dr p0) && loB (dr p1))))] := H446.aload at_146
          have H448 : Hr x b_at Z EL1 1 3 hs2 [ca] 149 #[.val (.int p0), .val (.int p1), .val (.int p2), .val (.int p3), .val (.int p4), .val (.int p5), .val (.int (3 : Int32)), .val (.ref ca), .val (.int ((3 : Int32) - (b01 (hiB (dr p0) && loB (dr p1))))), .unset, .unset, .unset] [.int (1 : Int32), .ref ca, .int ((3 : Int32) - (b01 (hiB (dr p0) && loB (dr p1))))] := H447.iconst at_148
          have H449 : Hr x b_at Z EL1 1 3 hs2 [ca] 150 #[.val (.int p0), .val (.int p1), .val (.int p2), .val (.int p3), .val (.int p4), .val (.int p5), .val (.int (3 : Int32)), .val (.ref ca), .val (.int ((3 : Int32) - (b01 (hiB (dr p0) && loB (dr p1))))), .unset, .unset, .unset] [.int (dr p1), .int ((3 : Int32) - (b01 (hiB (dr p0) && loB (dr p1))))] := H448.caload Fc at_149 (i := 1) rfl rfl
          have H450 : Hr x b_at Z EL1 1 3 hs2 [ca] 152 #[.val (.int p0), .val (.int p1), .val (.int p2), .val (.int p3), .val (.int p4), .val (.int p5), .val (.int (3 : Int32)), .val (.ref ca), .val (.int ((3 : Int32) - (b01 (hiB (dr p0) && loB (dr p1))))), .unset, .unset, .unset] [.ref ca, .int (dr p1), .int ((3 : Int32) - (b01 (hiB (dr p0) && loB (dr p1))))] := H449.aload at_150
          have H451 : Hr x b_at Z EL1 1 3 hs2 [ca] 153 #[.val (.int p0), .val (.int p1), .val (.int p2), .val (.int p3), .val (.int p4), .val (.int p5), .val (.int (3 : Int32)), .val (.ref ca), .val (.int ((3 : Int32) - (b01 (hiB (dr p0) && loB (dr p1))))), .unset, .unset, .unset] [.int (2 : Int32), .ref ca, .int (dr p1), .int ((3 : Int32) - (b01 (hiB (dr p0) && loB (dr p1))))] := H450.iconst at_152
          have H452 : Hr x b_at Z EL1 1 3 hs2 [ca] 154 #[.val (.int p0), .val (.int p1), .val (.int p2), .val (.int p3), .val (.int p4), .val (.int p5), .val (.int (3 : Int32)), .val (.ref ca), .val (.int ((3 : Int32) - (b01 (hiB (dr p0) && loB (dr p1))))), .unset, .unset, .unset] [.int (dr p2), .int (dr p1), .int ((3 : Int32) - (b01 (hiB (dr p0) && loB (dr p1))))] := H451.caload Fc at_153 (i := 2) rfl rfl
          obtain ⟨_, hp1, _, ⟨rfl, rfl, ep1⟩, Kp1, H453⟩ := H452.callS (argsL := [.int (dr p1), .int (dr p2)]) (rest := [.int ((3 : Int32) - (b01 (hiB (dr p0) && loB (dr p1))))]) (Wr := 1) (ct_pair hw x.l x.nar x.kn hnar hs2 (dr p1) (dr p2)) sub0 (w140 hw) (w141 hw) (w3 hw) (w142 hw) at_154 pd_pair rfl (hf := by first | decide | (simp [b_at, Bx.R]; done) | (simp [b_at, Bx.R]; omega)) (hl := by first | decide | (simp [b_at, Bx.R]; done) | (simp [b_at, Bx.R]; omega)) (hc := by first | decide | (simp [b_at, Bx.R]; done) | (simp [b_at, Bx.R]; omega)) (hs := by first | decide | (simp [b_at, Bx.R]; done) | (simp [b_at, Bx.R]; omega))
          rw [ep1] at H453
          have H453 : Hr x b_at Z EL1 1 3 hs2 [ca] 157 #[.val (.int p0), .val (.int p1), .val (.int p2), .val (.int p3), .val (.int p4), .val (.int p5), .val (.int (3 : Int32)), .val (.ref ca), .val (.int ((3 : Int32) - (b01 (hiB (dr p0) && loB (dr p1))))), .unset, .unset, .unset] [.int (b01 (hiB (dr p1) && loB (dr p2))), .int ((3 : Int32) - (b01 (hiB (dr p0) && loB (dr p1))))] := H453
          have H454 : Hr x b_at Z EL1 1 3 hs2 [ca] 158 #[.val (.int p0), .val (.int p1), .val (.int p2), .val (.int p3), .val (.int p4), .val (.int p5), .val (.int (3 : Int32)), .val (.ref ca), .val (.int ((3 : Int32) - (b01 (hiB (dr p0) && loB (dr p1))))), .unset, .unset, .unset] [.int (((3 : Int32) - (b01 (hiB (dr p0) && loB (dr p1)))) - (b01 (hiB (dr p1) && loB (dr p2))))] := H453.isub at_157
          have H455 : Hr x b_at Z EL1 1 3 hs2 [ca] 160 #[.val (.int p0), .val (.int p1), .val (.int p2), .val (.int p3), .val (.int p4), .val (.int p5), .val (.int (3 : Int32)), .val (.ref ca), .val (.int (((3 : Int32) - (b01 (hiB (dr p0) && loB (dr p1)))) - (b01 (hiB (dr p1) && loB (dr p2))))), .unset, .unset, .unset] [] := H454.istore at_158
          have H456 : Hr x b_at Z EL1 1 3 hs2 [ca] 162 #[.val (.int p0), .val (.int p1), .val (.int p2), .val (.int p3), .val (.int p4), .val (.int p5), .val (.int (3 : Int32)), .val (.ref ca), .val (.int (((3 : Int32) - (b01 (hiB (dr p0) && loB (dr p1)))) - (b01 (hiB (dr p1) && loB (dr p2))))), .unset, .unset, .unset] [.int (3 : Int32)] := H455.iload at_160
          have H457 : Hr x b_at Z EL1 1 3 hs2 [ca] 163 #[.val (.int p0), .val (.int p1), .val (.int p2), .val (.int p3), .val (.int p4), .val (.int p5), .val (.int (3 : Int32)), .val (.ref ca), .val (.int (((3 : Int32) - (b01 (hiB (dr p0) && loB (dr p1)))) - (b01 (hiB (dr p1) && loB (dr p2))))), .unset, .unset, .unset] [.int (3 : Int32), .int (3 : Int32)] := H456.iconst at_162
          have H458 : Hr x b_at Z EL1 1 3 hs2 [ca] 182 #[.val (.int p0), .val (.int p1), .val (.int p2), .val (.int p3), .val (.int p4), .val (.int p5), .val (.int (3 : Int32)), .val (.ref ca), .val (.int (((3 : Int32) - (b01 (hiB (dr p0) && loB (dr p1)))) - (b01 (hiB (dr p1) && loB (dr p2))))), .unset, .unset, .unset] [] := H457.icmpT at_163 (XT.ii_le_t (by decide))
          have H459 : Hr x b_at Z EL1 1 3 hs2 [ca] 184 #[.val (.int p0), .val (.int p1), .val (.int p2), .val (.int p3), .val (.int p4), .val (.int p5), .val (.int (3 : Int32)), .val (.ref ca), .val (.int (((3 : Int32) - (b01 (hiB (dr p0) && loB (dr p1)))) - (b01 (hiB (dr p1) && loB (dr p2))))), .unset, .unset, .unset] [.int p5] := H458.iload at_182
          have H460 : Hr x b_at Z EL1 1 3 hs2 [ca] 186 #[.val (.int p0), .val (.int p1), .val (.int p2), .val (.int p3), .val (.int p4), .val (.int p5), .val (.int (3 : Int32)), .val (.ref ca), .val (.int (((3 : Int32) - (b01 (hiB (dr p0) && loB (dr p1)))) - (b01 (hiB (dr p1) && loB (dr p2))))), .unset, .unset, .unset] [.int (((3 : Int32) - (b01 (hiB (dr p0) && loB (dr p1)))) - (b01 (hiB (dr p1) && loB (dr p2)))), .int p5] := H459.iload at_184
          obtain ⟨mx, hmx⟩ : ∃ r, r = if p5 < (((3 : Int32) - (b01 (hiB (dr p0) && loB (dr p1)))) - (b01 (hiB (dr p1) && loB (dr p2)))) then (((3 : Int32) - (b01 (hiB (dr p0) && loB (dr p1)))) - (b01 (hiB (dr p1) && loB (dr p2)))) else p5 := ⟨_, rfl⟩
          obtain ⟨_, hq, _, ⟨rfl, rfl, eq⟩, Kq, H461⟩ := H460.callS (argsL := [.int p5, .int (((3 : Int32) - (b01 (hiB (dr p0) && loB (dr p1)))) - (b01 (hiB (dr p1) && loB (dr p2))))]) (rest := []) (Wr := 0) (ct_mmax hw x.l x.nar x.kn hnar hs2 p5 (((3 : Int32) - (b01 (hiB (dr p0) && loB (dr p1)))) - (b01 (hiB (dr p1) && loB (dr p2)))) mx hmx) sub0 (w6 hw) (w7 hw) (w8 hw) (w9 hw) at_186 pd_mmax rfl (hf := by first | decide | (simp [b_at, Bx.R]; done) | (simp [b_at, Bx.R]; omega)) (hl := by first | decide | (simp [b_at, Bx.R]; done) | (simp [b_at, Bx.R]; omega)) (hc := by first | decide | (simp [b_at, Bx.R]; done) | (simp [b_at, Bx.R]; omega)) (hs := by first | decide | (simp [b_at, Bx.R]; done) | (simp [b_at, Bx.R]; omega))
          rw [eq] at H461
          have H461 : Hr x b_at Z EL1 1 3 hs2 [ca] 189 #[.val (.int p0), .val (.int p1), .val (.int p2), .val (.int p3), .val (.int p4), .val (.int p5), .val (.int (3 : Int32)), .val (.ref ca), .val (.int (((3 : Int32) - (b01 (hiB (dr p0) && loB (dr p1)))) - (b01 (hiB (dr p1) && loB (dr p2))))), .unset, .unset, .unset] [.int mx] := H461
          have hge := max_ge hmx
          have hcnt : (((3 : Int32) - (b01 (hiB (dr p0) && loB (dr p1)))) - (b01 (hiB (dr p1) && loB (dr p2)))) = Int32.ofNat ([dr p0, dr p1, dr p2].length - cpn [dr p0, dr p1, dr p2]) := cnt3 (dr p0) (dr p1) (dr p2)
          rw [hcnt] at hge
          have hch : CHL [dr p0, dr p1, dr p2] := fun c hc => by simp only [List.mem_cons, List.not_mem_nil, or_false] at hc; rcases hc with rfl | rfl | rfl <;> exact chr_dr _
          have hnz : ∀ c ∈ [dr p0, dr p1, dr p2], ¬ c = 0 := fun c hc => by simp only [List.mem_cons, List.not_mem_nil, or_false] at hc; rcases hc with rfl | rfl | rfl; exact q0; exact q1; exact q2
          have H462 : Hr x b_at Z EL1 1 3 hs2 [ca] 191 #[.val (.int p0), .val (.int p1), .val (.int p2), .val (.int p3), .val (.int p4), .val (.int p5), .val (.int (3 : Int32)), .val (.ref ca), .val (.int (((3 : Int32) - (b01 (hiB (dr p0) && loB (dr p1)))) - (b01 (hiB (dr p1) && loB (dr p2))))), .val (.int mx), .unset, .unset] [] := H461.istore at_189
          obtain ⟨h3, E3, ⟨X3, D3, U3⟩, H463⟩ := H462.new (w10 hw) (w11 hw) (w12 hw) at_191 (by first | decide | (simp [b_at, Bx.R]; done) | (simp [b_at, Bx.R]; omega)) (by first | decide | (simp [b_at, Bx.R]; done) | (simp [b_at, Bx.R]; omega))
          obtain ⟨s, g_s⟩ : ∃ z, z = hs2.size := ⟨_, rfl⟩
          rw [← g_s] at X3 D3 U3 H463
          have H463 : Hr x b_at Z EL1 2 7 h3 [s, ca] 194 #[.val (.int p0), .val (.int p1), .val (.int p2), .val (.int p3), .val (.int p4), .val (.int p5), .val (.int (3 : Int32)), .val (.ref ca), .val (.int (((3 : Int32) - (b01 (hiB (dr p0) && loB (dr p1)))) - (b01 (hiB (dr p1) && loB (dr p2))))), .val (.int mx), .unset, .unset] [.ref s] := H463
          have H464 : Hr x b_at Z EL1 2 7 h3 [s, ca] 195 #[.val (.int p0), .val (.int p1), .val (.int p2), .val (.int p3), .val (.int p4), .val (.int p5), .val (.int (3 : Int32)), .val (.ref ca), .val (.int (((3 : Int32) - (b01 (hiB (dr p0) && loB (dr p1)))) - (b01 (hiB (dr p1) && loB (dr p2))))), .val (.int mx), .unset, .unset] [.ref s, .ref s] := H463.dup at_194
          have H465 : Hr x b_at Z EL1 2 7 h3 [s, ca] 197 #[.val (.int p0), .val (.int p1), .val (.int p2), .val (.int p3), .val (.int p4), .val (.int p5), .val (.int (3 : Int32)), .val (.ref ca), .val (.int (((3 : Int32) - (b01 (hiB (dr p0) && loB (dr p1)))) - (b01 (hiB (dr p1) && loB (dr p2))))), .val (.int mx), .unset, .unset] [.ref ca, .ref s, .ref s] := H464.aload at_195
          have Fcd : Fld Z h3 s "java/lang/String" "coder" "B" (.int 0) := D3 (Or.inr (w55 hw)) (ty := .byte) (by decide)
          have Fvl : Fld Z h3 s "java/lang/String" "value" "[B" .null := D3 (Or.inr (w57 hw)) (ty := .array .byte) (by decide)
          obtain ⟨_, h4, _, ⟨rfl, rfl, Fs⟩, K4, H466⟩ := H465.callI (argsL := [.ref ca]) (rest := [.ref s]) (Wr := 1) (a := s) (ct_sini1 hw x.l x.nar x.kn hnar h3 s ca [dr p0, dr p1, dr p2] X3 Fcd Fvl (Fc.ext E3) (by simp) (by simp) hch cz O hcz Sd Sh Sl) (sub1 (by simp)) (w13 hw) (w14 hw) (w12 hw) (w15 hw) at_197 pd_sini1 rfl (hf := by first | decide | (simp [b_at, Bx.R]; done) | (simp [b_at, Bx.R]; omega)) (hl := by first | decide | (simp [b_at, Bx.R]; done) | (simp [b_at, Bx.R]; omega)) (hc := by first | decide | (simp [b_at, Bx.R]; done) | (simp [b_at, Bx.R]; omega)) (hs := by first | decide | (simp [b_at, Bx.R]; done) | (simp [b_at, Bx.R]; omega))
          have H466 : Hr x b_at Z EL1 4 19 h4 [s, ca] 200 #[.val (.int p0), .val (.int p1), .val (.int p2), .val (.int p3), .val (.int p4), .val (.int p5), .val (.int (3 : Int32)), .val (.ref ca), .val (.int (((3 : Int32) - (b01 (hiB (dr p0) && loB (dr p1)))) - (b01 (hiB (dr p1) && loB (dr p2))))), .val (.int mx), .unset, .unset] [.ref s] := H466
          have H467 : Hr x b_at Z EL1 4 19 h4 [s, ca] 202 #[.val (.int p0), .val (.int p1), .val (.int p2), .val (.int p3), .val (.int p4), .val (.int p5), .val (.int (3 : Int32)), .val (.ref ca), .val (.int (((3 : Int32) - (b01 (hiB (dr p0) && loB (dr p1)))) - (b01 (hiB (dr p1) && loB (dr p2))))), .val (.int mx), .val (.ref s), .unset] [] := H466.astore at_200
          have H468 : Hr x b_at Z EL1 4 19 h4 [s, ca] 204 #[.val (.int p0), .val (.int p1), .val (.int p2), .val (.int p3), .val (.int p4), .val (.int p5), .val (.int (3 : Int32)), .val (.ref ca), .val (.int (((3 : Int32) - (b01 (hiB (dr p0) && loB (dr p1)))) - (b01 (hiB (dr p1) && loB (dr p2))))), .val (.int mx), .val (.ref s), .unset] [.ref s] := H467.aload at_202
          obtain ⟨nm, h5, E5, H469⟩ := H468.ldcO (n := 16) (w58 hw) (wStr hw) (ew hw) at_204 (by decide) (by decide) hnar (by decide) (by decide)
          have H469 : Hr x b_at Z EL1 6 39 h5 [s, ca] 206 #[.val (.int p0), .val (.int p1), .val (.int p2), .val (.int p3), .val (.int p4), .val (.int p5), .val (.int (3 : Int32)), .val (.ref ca), .val (.int (((3 : Int32) - (b01 (hiB (dr p0) && loB (dr p1)))) - (b01 (hiB (dr p1) && loB (dr p2))))), .val (.int mx), .val (.ref s), .unset] [.ref nm, .ref s] := H469
          have H470 : Hr x b_at Z EL1 6 39 h5 [s, ca] 208 #[.val (.int p0), .val (.int p1), .val (.int p2), .val (.int p3), .val (.int p4), .val (.int p5), .val (.int (3 : Int32)), .val (.ref ca), .val (.int (((3 : Int32) - (b01 (hiB (dr p0) && loB (dr p1)))) - (b01 (hiB (dr p1) && loB (dr p2))))), .val (.int mx), .val (.ref s), .unset] [.int mx, .ref nm, .ref s] := H469.iload at_206
          obtain ⟨_, h6, _, ⟨rfl, rfl, e6⟩, K6, H471⟩ := H470.callS (argsL := [.ref s, .ref nm, .int mx]) (rest := []) (Wr := 0) (ct_nchk hw x.l x.nar x.kn hnar h5 nm mx s [dr p0, dr p1, dr p2] (Fs.ext E5) cz O hcz (by simp) (by simp) hch Sd Sh Sl hnz f hfr P hge) sub0 (w61 hw) (w62 hw) (w63 hw) (w64 hw) at_208 pd_nchk rfl (hf := by first | decide | (simp [b_at, Bx.R]; done) | (simp [b_at, Bx.R]; omega)) (hl := by first | decide | (simp [b_at, Bx.R]; done) | (simp [b_at, Bx.R]; omega)) (hc := by first | decide | (simp [b_at, Bx.R]; done) | (simp [b_at, Bx.R]; omega)) (hs := by first | decide | (simp [b_at, Bx.R]; done) | (simp [b_at, Bx.R]; omega))
          rw [e6] at H471
          have H471 : Hr x b_at Z EL1 6 39 h5 [s, ca] 211 #[.val (.int p0), .val (.int p1), .val (.int p2), .val (.int p3), .val (.int p4), .val (.int p5), .val (.int (3 : Int32)), .val (.ref ca), .val (.int (((3 : Int32) - (b01 (hiB (dr p0) && loB (dr p1)))) - (b01 (hiB (dr p1) && loB (dr p2))))), .val (.int mx), .val (.ref s), .unset] [.ref s] := H471
          have H472 : Hr x b_at Z EL1 6 39 h5 [s, ca] 213 #[.val (.int p0), .val (.int p1), .val (.int p2), .val (.int p3), .val (.int p4), .val (.int p5), .val (.int (3 : Int32)), .val (.ref ca), .val (.int (((3 : Int32) - (b01 (hiB (dr p0) && loB (dr p1)))) - (b01 (hiB (dr p1) && loB (dr p2))))), .val (.int mx), .val (.ref s), .val (.ref s)] [] := H471.astore at_211
          have H473 : Hr x b_at Z EL1 6 39 h5 [s, ca] 215 #[.val (.int p0), .val (.int p1), .val (.int p2), .val (.int p3), .val (.int p4), .val (.int p5), .val (.int (3 : Int32)), .val (.ref ca), .val (.int (((3 : Int32) - (b01 (hiB (dr p0) && loB (dr p1)))) - (b01 (hiB (dr p1) && loB (dr p2))))), .val (.int mx), .val (.ref s), .val (.ref s)] [.ref s] := H472.aload at_213
          have H474 : Hr x b_at Z EL1 6 39 h5 [s, ca] 217 #[.val (.int p0), .val (.int p1), .val (.int p2), .val (.int p3), .val (.int p4), .val (.int p5), .val (.int (3 : Int32)), .val (.ref ca), .val (.int (((3 : Int32) - (b01 (hiB (dr p0) && loB (dr p1)))) - (b01 (hiB (dr p1) && loB (dr p2))))), .val (.int mx), .val (.ref s), .val (.ref s)] [.ref s, .ref s] := H473.aload at_215
          have H475 : Hr x b_at Z EL1 6 39 h5 [s, ca] 220 #[.val (.int p0), .val (.int p1), .val (.int p2), .val (.int p3), .val (.int p4), .val (.int p5), .val (.int (3 : Int32)), .val (.ref ca), .val (.int (((3 : Int32) - (b01 (hiB (dr p0) && loB (dr p1)))) - (b01 (hiB (dr p1) && loB (dr p2))))), .val (.int mx), .val (.ref s), .val (.ref s)] [] := H474.acmpF at_217 (by simp [XT.acmp])
          have H476 : Hr x b_at Z EL1 6 39 h5 [s, ca] 221 #[.val (.int p0), .val (.int p1), .val (.int p2), .val (.int p3), .val (.int p4), .val (.int p5), .val (.int (3 : Int32)), .val (.ref ca), .val (.int (((3 : Int32) - (b01 (hiB (dr p0) && loB (dr p1)))) - (b01 (hiB (dr p1) && loB (dr p2))))), .val (.int mx), .val (.ref s), .val (.ref s)] [.int (1 : Int32)] := H475.iconst at_220
          have H477 : Hr x b_at Z EL1 6 39 h5 [s, ca] 225 #[.val (.int p0), .val (.int p1), .val (.int p2), .val (.int p3), .val (.int p4), .val (.int p5), .val (.int (3 : Int32)), .val (.ref ca), .val (.int (((3 : Int32) - (b01 (hiB (dr p0) && loB (dr p1)))) - (b01 (hiB (dr p1) && loB (dr p2))))), .val (.int mx), .val (.ref s), .val (.ref s)] [.int (1 : Int32)] := H476.goto at_221
          exact H477.finZ at_225 (t := .boolean) (by first | rfl | decide) ⟨rfl, rfl⟩ sub0
  · have z477 := True.intro
    have H478 : Hr x b_at Z EL1 0 0 h0 [] 1 #[.val (.int p0), .val (.int p1), .val (.int p2), .val (.int p3), .val (.int p4), .val (.int p5), .unset, .unset, .unset, .unset, .unset, .unset] [.int (1 : Int32)] := H0.iconst at_0
    have H479 : Hr x b_at Z EL1 0 0 h0 [] 3 #[.val (.int p0), .val (.int p1), .val (.int p2), .val (.int p3), .val (.int p4), .val (.int p5), .unset, .unset, .unset, .unset, .unset, .unset] [.int p4, .int (1 : Int32)] := H478.iload at_1
    have H480 : Hr x b_at Z EL1 0 0 h0 [] 4 #[.val (.int p0), .val (.int p1), .val (.int p2), .val (.int p3), .val (.int p4), .val (.int p5), .unset, .unset, .unset, .unset, .unset, .unset] [.int (3 : Int32), .int p4, .int (1 : Int32)] := H479.iconst at_3
    have H481 : Hr x b_at Z EL1 0 0 h0 [] 5 #[.val (.int p0), .val (.int p1), .val (.int p2), .val (.int p3), .val (.int p4), .val (.int p5), .unset, .unset, .unset, .unset, .unset, .unset] [.int (p4 &&& (3 : Int32)), .int (1 : Int32)] := H480.iand at_4
    have H482 : Hr x b_at Z EL1 0 0 h0 [] 6 #[.val (.int p0), .val (.int p1), .val (.int p2), .val (.int p3), .val (.int p4), .val (.int p5), .unset, .unset, .unset, .unset, .unset, .unset] [.int (4 : Int32)] := H481.iadd at_5 (hv := (by rw [hm]; decide))
    have H483 : Hr x b_at Z EL1 0 0 h0 [] 8 #[.val (.int p0), .val (.int p1), .val (.int p2), .val (.int p3), .val (.int p4), .val (.int p5), .val (.int (4 : Int32)), .unset, .unset, .unset, .unset, .unset] [] := H482.istore at_6
    have H484 : Hr x b_at Z EL1 0 0 h0 [] 10 #[.val (.int p0), .val (.int p1), .val (.int p2), .val (.int p3), .val (.int p4), .val (.int p5), .val (.int (4 : Int32)), .unset, .unset, .unset, .unset, .unset] [.int (4 : Int32)] := H483.iload at_8
    obtain ⟨h1, E1, Fc, H485⟩ := H484.newarray (aty := .char) (cap := 4) (w0 hw) at_10 (by decide) (by decide) (by decide) (by first | decide | (simp [b_at, Bx.R]; done) | (simp [b_at, Bx.R]; omega)) (by first | decide | (simp [b_at, Bx.R]; done) | (simp [b_at, Bx.R]; omega))
    obtain ⟨ca, g_ca⟩ : ∃ z, z = h0.size := ⟨_, rfl⟩
    rw [← g_ca] at Fc H485
    have Fc : Ar Z h1 ca .char (List.replicate 4 (.int 0)) := Fc
    have H485 : Hr x b_at Z EL1 1 4 h1 [ca] 12 #[.val (.int p0), .val (.int p1), .val (.int p2), .val (.int p3), .val (.int p4), .val (.int p5), .val (.int (4 : Int32)), .unset, .unset, .unset, .unset, .unset] [.ref ca] := H485
    have H486 : Hr x b_at Z EL1 1 4 h1 [ca] 14 #[.val (.int p0), .val (.int p1), .val (.int p2), .val (.int p3), .val (.int p4), .val (.int p5), .val (.int (4 : Int32)), .val (.ref ca), .unset, .unset, .unset, .unset] [] := H485.astore at_12
    have H487 : Hr x b_at Z EL1 1 4 h1 [ca] 16 #[.val (.int p0), .val (.int p1), .val (.int p2), .val (.int p3), .val (.int p4), .val (.int p5), .val (.int (4 : Int32)), .val (.ref ca), .unset, .unset, .unset, .unset] [.ref ca] := H486.aload at_14
    have H488 : Hr x b_at Z EL1 1 4 h1 [ca] 17 #[.val (.int p0), .val (.int p1), .val (.int p2), .val (.int p3), .val (.int p4), .val (.int p5), .val (.int (4 : Int32)), .val (.ref ca), .unset, .unset, .unset, .unset] [.int (0 : Int32), .ref ca] := H487.iconst at_16
    have H489 : Hr x b_at Z EL1 1 4 h1 [ca] 18 #[.val (.int p0), .val (.int p1), .val (.int p2), .val (.int p3), .val (.int p4), .val (.int p5), .val (.int (4 : Int32)), .val (.ref ca), .unset, .unset, .unset, .unset] [.int p0, .int (0 : Int32), .ref ca] := H488.iloadN at_17
    obtain ⟨_, hd0, _, ⟨rfl, rfl, ed0⟩, Kd0, H490⟩ := H489.callS (argsL := [.int p0]) (rest := [.int (0 : Int32), .ref ca]) (Wr := 2) (ct_draw hw x.l x.nar x.kn hnar h1 p0) sub0 (w1 hw) (w2 hw) (w3 hw) (w4 hw) at_18 pd_draw rfl (hf := by first | decide | (simp [b_at, Bx.R]; done) | (simp [b_at, Bx.R]; omega)) (hl := by first | decide | (simp [b_at, Bx.R]; done) | (simp [b_at, Bx.R]; omega)) (hc := by first | decide | (simp [b_at, Bx.R]; done) | (simp [b_at, Bx.R]; omega)) (hs := by first | decide | (simp [b_at, Bx.R]; done) | (simp [b_at, Bx.R]; omega))
    rw [ed0] at H490
    have H490 : Hr x b_at Z EL1 1 4 h1 [ca] 21 #[.val (.int p0), .val (.int p1), .val (.int p2), .val (.int p3), .val (.int p4), .val (.int p5), .val (.int (4 : Int32)), .val (.ref ca), .unset, .unset, .unset, .unset] [.int (dr p0), .int (0 : Int32), .ref ca] := H490
    obtain ⟨hs0, Ws0, H491⟩ := H490.castore (by simp) Fc at_21 (i := 0) rfl (by simp) (hw := (chr_dr p0).nar)
    have H491 : Hr x b_at Z EL1 1 4 hs0 [ca] 22 #[.val (.int p0), .val (.int p1), .val (.int p2), .val (.int p3), .val (.int p4), .val (.int p5), .val (.int (4 : Int32)), .val (.ref ca), .unset, .unset, .unset, .unset] [] := H491
    have Fc : Ar Z hs0 ca .char [.int (dr p0), .int 0, .int 0, .int 0] := Fc.set Ws0
    have H492 : Hr x b_at Z EL1 1 4 hs0 [ca] 24 #[.val (.int p0), .val (.int p1), .val (.int p2), .val (.int p3), .val (.int p4), .val (.int p5), .val (.int (4 : Int32)), .val (.ref ca), .unset, .unset, .unset, .unset] [.int (4 : Int32)] := H491.iload at_22
    have H493 : Hr x b_at Z EL1 1 4 hs0 [ca] 25 #[.val (.int p0), .val (.int p1), .val (.int p2), .val (.int p3), .val (.int p4), .val (.int p5), .val (.int (4 : Int32)), .val (.ref ca), .unset, .unset, .unset, .unset] [.int (1 : Int32), .int (4 : Int32)] := H492.iconst at_24
    have H494 : Hr x b_at Z EL1 1 4 hs0 [ca] 28 #[.val (.int p0), .val (.int p1), .val (.int p2), .val (.int p3), .val (.int p4), .val (.int p5), .val (.int (4 : Int32)), .val (.ref ca), .unset, .unset, .unset, .unset] [] := H493.icmpF at_25 (XT.ii_le_f (by decide))
    have H495 : Hr x b_at Z EL1 1 4 hs0 [ca] 30 #[.val (.int p0), .val (.int p1), .val (.int p2), .val (.int p3), .val (.int p4), .val (.int p5), .val (.int (4 : Int32)), .val (.ref ca), .unset, .unset, .unset, .unset] [.ref ca] := H494.aload at_28
    have H496 : Hr x b_at Z EL1 1 4 hs0 [ca] 31 #[.val (.int p0), .val (.int p1), .val (.int p2), .val (.int p3), .val (.int p4), .val (.int p5), .val (.int (4 : Int32)), .val (.ref ca), .unset, .unset, .unset, .unset] [.int (1 : Int32), .ref ca] := H495.iconst at_30
    have H497 : Hr x b_at Z EL1 1 4 hs0 [ca] 32 #[.val (.int p0), .val (.int p1), .val (.int p2), .val (.int p3), .val (.int p4), .val (.int p5), .val (.int (4 : Int32)), .val (.ref ca), .unset, .unset, .unset, .unset] [.int p1, .int (1 : Int32), .ref ca] := H496.iloadN at_31
    obtain ⟨_, hd1, _, ⟨rfl, rfl, ed1⟩, Kd1, H498⟩ := H497.callS (argsL := [.int p1]) (rest := [.int (1 : Int32), .ref ca]) (Wr := 2) (ct_draw hw x.l x.nar x.kn hnar hs0 p1) sub0 (w1 hw) (w2 hw) (w3 hw) (w4 hw) at_32 pd_draw rfl (hf := by first | decide | (simp [b_at, Bx.R]; done) | (simp [b_at, Bx.R]; omega)) (hl := by first | decide | (simp [b_at, Bx.R]; done) | (simp [b_at, Bx.R]; omega)) (hc := by first | decide | (simp [b_at, Bx.R]; done) | (simp [b_at, Bx.R]; omega)) (hs := by first | decide | (simp [b_at, Bx.R]; done) | (simp [b_at, Bx.R]; omega))
    rw [ed1] at H498
    have H498 : Hr x b_at Z EL1 1 4 hs0 [ca] 35 #[.val (.int p0), .val (.int p1), .val (.int p2), .val (.int p3), .val (.int p4), .val (.int p5), .val (.int (4 : Int32)), .val (.ref ca), .unset, .unset, .unset, .unset] [.int (dr p1), .int (1 : Int32), .ref ca] := H498
    obtain ⟨hs1, Ws1, H499⟩ := H498.castore (by simp) Fc at_35 (i := 1) rfl (by simp) (hw := (chr_dr p1).nar)
    have H499 : Hr x b_at Z EL1 1 4 hs1 [ca] 36 #[.val (.int p0), .val (.int p1), .val (.int p2), .val (.int p3), .val (.int p4), .val (.int p5), .val (.int (4 : Int32)), .val (.ref ca), .unset, .unset, .unset, .unset] [] := H499
    have Fc : Ar Z hs1 ca .char [.int (dr p0), .int (dr p1), .int 0, .int 0] := Fc.set Ws1
    have H500 : Hr x b_at Z EL1 1 4 hs1 [ca] 38 #[.val (.int p0), .val (.int p1), .val (.int p2), .val (.int p3), .val (.int p4), .val (.int p5), .val (.int (4 : Int32)), .val (.ref ca), .unset, .unset, .unset, .unset] [.int (4 : Int32)] := H499.iload at_36
    have H501 : Hr x b_at Z EL1 1 4 hs1 [ca] 39 #[.val (.int p0), .val (.int p1), .val (.int p2), .val (.int p3), .val (.int p4), .val (.int p5), .val (.int (4 : Int32)), .val (.ref ca), .unset, .unset, .unset, .unset] [.int (2 : Int32), .int (4 : Int32)] := H500.iconst at_38
    have H502 : Hr x b_at Z EL1 1 4 hs1 [ca] 42 #[.val (.int p0), .val (.int p1), .val (.int p2), .val (.int p3), .val (.int p4), .val (.int p5), .val (.int (4 : Int32)), .val (.ref ca), .unset, .unset, .unset, .unset] [] := H501.icmpF at_39 (XT.ii_le_f (by decide))
    have H503 : Hr x b_at Z EL1 1 4 hs1 [ca] 44 #[.val (.int p0), .val (.int p1), .val (.int p2), .val (.int p3), .val (.int p4), .val (.int p5), .val (.int (4 : Int32)), .val (.ref ca), .unset, .unset, .unset, .unset] [.ref ca] := H502.aload at_42
    have H504 : Hr x b_at Z EL1 1 4 hs1 [ca] 45 #[.val (.int p0), .val (.int p1), .val (.int p2), .val (.int p3), .val (.int p4), .val (.int p5), .val (.int (4 : Int32)), .val (.ref ca), .unset, .unset, .unset, .unset] [.int (2 : Int32), .ref ca] := H503.iconst at_44
    have H505 : Hr x b_at Z EL1 1 4 hs1 [ca] 46 #[.val (.int p0), .val (.int p1), .val (.int p2), .val (.int p3), .val (.int p4), .val (.int p5), .val (.int (4 : Int32)), .val (.ref ca), .unset, .unset, .unset, .unset] [.int p2, .int (2 : Int32), .ref ca] := H504.iloadN at_45
    obtain ⟨_, hd2, _, ⟨rfl, rfl, ed2⟩, Kd2, H506⟩ := H505.callS (argsL := [.int p2]) (rest := [.int (2 : Int32), .ref ca]) (Wr := 2) (ct_draw hw x.l x.nar x.kn hnar hs1 p2) sub0 (w1 hw) (w2 hw) (w3 hw) (w4 hw) at_46 pd_draw rfl (hf := by first | decide | (simp [b_at, Bx.R]; done) | (simp [b_at, Bx.R]; omega)) (hl := by first | decide | (simp [b_at, Bx.R]; done) | (simp [b_at, Bx.R]; omega)) (hc := by first | decide | (simp [b_at, Bx.R]; done) | (simp [b_at, Bx.R]; omega)) (hs := by first | decide | (simp [b_at, Bx.R]; done) | (simp [b_at, Bx.R]; omega))
    rw [ed2] at H506
    have H506 : Hr x b_at Z EL1 1 4 hs1 [ca] 49 #[.val (.int p0), .val (.int p1), .val (.int p2), .val (.int p3), .val (.int p4), .val (.int p5), .val (.int (4 : Int32)), .val (.ref ca), .unset, .unset, .unset, .unset] [.int (dr p2), .int (2 : Int32), .ref ca] := H506
    obtain ⟨hs2, Ws2, H507⟩ := H506.castore (by simp) Fc at_49 (i := 2) rfl (by simp) (hw := (chr_dr p2).nar)
    have H507 : Hr x b_at Z EL1 1 4 hs2 [ca] 50 #[.val (.int p0), .val (.int p1), .val (.int p2), .val (.int p3), .val (.int p4), .val (.int p5), .val (.int (4 : Int32)), .val (.ref ca), .unset, .unset, .unset, .unset] [] := H507
    have Fc : Ar Z hs2 ca .char [.int (dr p0), .int (dr p1), .int (dr p2), .int 0] := Fc.set Ws2
    have H508 : Hr x b_at Z EL1 1 4 hs2 [ca] 52 #[.val (.int p0), .val (.int p1), .val (.int p2), .val (.int p3), .val (.int p4), .val (.int p5), .val (.int (4 : Int32)), .val (.ref ca), .unset, .unset, .unset, .unset] [.int (4 : Int32)] := H507.iload at_50
    have H509 : Hr x b_at Z EL1 1 4 hs2 [ca] 53 #[.val (.int p0), .val (.int p1), .val (.int p2), .val (.int p3), .val (.int p4), .val (.int p5), .val (.int (4 : Int32)), .val (.ref ca), .unset, .unset, .unset, .unset] [.int (3 : Int32), .int (4 : Int32)] := H508.iconst at_52
    have H510 : Hr x b_at Z EL1 1 4 hs2 [ca] 56 #[.val (.int p0), .val (.int p1), .val (.int p2), .val (.int p3), .val (.int p4), .val (.int p5), .val (.int (4 : Int32)), .val (.ref ca), .unset, .unset, .unset, .unset] [] := H509.icmpF at_53 (XT.ii_le_f (by decide))
    have H511 : Hr x b_at Z EL1 1 4 hs2 [ca] 58 #[.val (.int p0), .val (.int p1), .val (.int p2), .val (.int p3), .val (.int p4), .val (.int p5), .val (.int (4 : Int32)), .val (.ref ca), .unset, .unset, .unset, .unset] [.ref ca] := H510.aload at_56
    have H512 : Hr x b_at Z EL1 1 4 hs2 [ca] 59 #[.val (.int p0), .val (.int p1), .val (.int p2), .val (.int p3), .val (.int p4), .val (.int p5), .val (.int (4 : Int32)), .val (.ref ca), .unset, .unset, .unset, .unset] [.int (3 : Int32), .ref ca] := H511.iconst at_58
    have H513 : Hr x b_at Z EL1 1 4 hs2 [ca] 60 #[.val (.int p0), .val (.int p1), .val (.int p2), .val (.int p3), .val (.int p4), .val (.int p5), .val (.int (4 : Int32)), .val (.ref ca), .unset, .unset, .unset, .unset] [.int p3, .int (3 : Int32), .ref ca] := H512.iloadN at_59
    obtain ⟨_, hd3, _, ⟨rfl, rfl, ed3⟩, Kd3, H514⟩ := H513.callS (argsL := [.int p3]) (rest := [.int (3 : Int32), .ref ca]) (Wr := 2) (ct_draw hw x.l x.nar x.kn hnar hs2 p3) sub0 (w1 hw) (w2 hw) (w3 hw) (w4 hw) at_60 pd_draw rfl (hf := by first | decide | (simp [b_at, Bx.R]; done) | (simp [b_at, Bx.R]; omega)) (hl := by first | decide | (simp [b_at, Bx.R]; done) | (simp [b_at, Bx.R]; omega)) (hc := by first | decide | (simp [b_at, Bx.R]; done) | (simp [b_at, Bx.R]; omega)) (hs := by first | decide | (simp [b_at, Bx.R]; done) | (simp [b_at, Bx.R]; omega))
    rw [ed3] at H514
    have H514 : Hr x b_at Z EL1 1 4 hs2 [ca] 63 #[.val (.int p0), .val (.int p1), .val (.int p2), .val (.int p3), .val (.int p4), .val (.int p5), .val (.int (4 : Int32)), .val (.ref ca), .unset, .unset, .unset, .unset] [.int (dr p3), .int (3 : Int32), .ref ca] := H514
    obtain ⟨hs3, Ws3, H515⟩ := H514.castore (by simp) Fc at_63 (i := 3) rfl (by simp) (hw := (chr_dr p3).nar)
    have H515 : Hr x b_at Z EL1 1 4 hs3 [ca] 64 #[.val (.int p0), .val (.int p1), .val (.int p2), .val (.int p3), .val (.int p4), .val (.int p5), .val (.int (4 : Int32)), .val (.ref ca), .unset, .unset, .unset, .unset] [] := H515
    have Fc : Ar Z hs3 ca .char [.int (dr p0), .int (dr p1), .int (dr p2), .int (dr p3)] := Fc.set Ws3
    have H516 : Hr x b_at Z EL1 1 4 hs3 [ca] 66 #[.val (.int p0), .val (.int p1), .val (.int p2), .val (.int p3), .val (.int p4), .val (.int p5), .val (.int (4 : Int32)), .val (.ref ca), .unset, .unset, .unset, .unset] [.ref ca] := H515.aload at_64
    have H517 : Hr x b_at Z EL1 1 4 hs3 [ca] 67 #[.val (.int p0), .val (.int p1), .val (.int p2), .val (.int p3), .val (.int p4), .val (.int p5), .val (.int (4 : Int32)), .val (.ref ca), .unset, .unset, .unset, .unset] [.int (0 : Int32), .ref ca] := H516.iconst at_66
    have H518 : Hr x b_at Z EL1 1 4 hs3 [ca] 68 #[.val (.int p0), .val (.int p1), .val (.int p2), .val (.int p3), .val (.int p4), .val (.int p5), .val (.int (4 : Int32)), .val (.ref ca), .unset, .unset, .unset, .unset] [.int (dr p0)] := H517.caload Fc at_67 (i := 0) rfl rfl
    by_cases q0 : dr p0 = 0
    · have z518 := q0
      have H519 : Hr x b_at Z EL1 1 4 hs3 [ca] 110 #[.val (.int p0), .val (.int p1), .val (.int p2), .val (.int p3), .val (.int p4), .val (.int p5), .val (.int (4 : Int32)), .val (.ref ca), .unset, .unset, .unset, .unset] [] := H518.ifT at_68 (XT.i0_eq_t q0)
      have H520 : Hr x b_at Z EL1 1 4 hs3 [ca] 111 #[.val (.int p0), .val (.int p1), .val (.int p2), .val (.int p3), .val (.int p4), .val (.int p5), .val (.int (4 : Int32)), .val (.ref ca), .unset, .unset, .unset, .unset] [.int (1 : Int32)] := H519.iconst at_110
      exact H520.finZ at_111 (t := .boolean) (by first | rfl | decide) ⟨rfl, rfl⟩ sub0
    · have z520 := q0
      have H521 : Hr x b_at Z EL1 1 4 hs3 [ca] 71 #[.val (.int p0), .val (.int p1), .val (.int p2), .val (.int p3), .val (.int p4), .val (.int p5), .val (.int (4 : Int32)), .val (.ref ca), .unset, .unset, .unset, .unset] [] := H518.ifF at_68 (XT.i0_eq_f q0)
      have H522 : Hr x b_at Z EL1 1 4 hs3 [ca] 73 #[.val (.int p0), .val (.int p1), .val (.int p2), .val (.int p3), .val (.int p4), .val (.int p5), .val (.int (4 : Int32)), .val (.ref ca), .unset, .unset, .unset, .unset] [.int (4 : Int32)] := H521.iload at_71
      have H523 : Hr x b_at Z EL1 1 4 hs3 [ca] 74 #[.val (.int p0), .val (.int p1), .val (.int p2), .val (.int p3), .val (.int p4), .val (.int p5), .val (.int (4 : Int32)), .val (.ref ca), .unset, .unset, .unset, .unset] [.int (1 : Int32), .int (4 : Int32)] := H522.iconst at_73
      have H524 : Hr x b_at Z EL1 1 4 hs3 [ca] 77 #[.val (.int p0), .val (.int p1), .val (.int p2), .val (.int p3), .val (.int p4), .val (.int p5), .val (.int (4 : Int32)), .val (.ref ca), .unset, .unset, .unset, .unset] [] := H523.icmpF at_74 (XT.ii_le_f (by decide))
      have H525 : Hr x b_at Z EL1 1 4 hs3 [ca] 79 #[.val (.int p0), .val (.int p1), .val (.int p2), .val (.int p3), .val (.int p4), .val (.int p5), .val (.int (4 : Int32)), .val (.ref ca), .unset, .unset, .unset, .unset] [.ref ca] := H524.aload at_77
      have H526 : Hr x b_at Z EL1 1 4 hs3 [ca] 80 #[.val (.int p0), .val (.int p1), .val (.int p2), .val (.int p3), .val (.int p4), .val (.int p5), .val (.int (4 : Int32)), .val (.ref ca), .unset, .unset, .unset, .unset] [.int (1 : Int32), .ref ca] := H525.iconst at_79
      have H527 : Hr x b_at Z EL1 1 4 hs3 [ca] 81 #[.val (.int p0), .val (.int p1), .val (.int p2), .val (.int p3), .val (.int p4), .val (.int p5), .val (.int (4 : Int32)), .val (.ref ca), .unset, .unset, .unset, .unset] [.int (dr p1)] := H526.caload Fc at_80 (i := 1) rfl rfl
      by_cases q1 : dr p1 = 0
      · have z527 := q1
        have H528 : Hr x b_at Z EL1 1 4 hs3 [ca] 110 #[.val (.int p0), .val (.int p1), .val (.int p2), .val (.int p3), .val (.int p4), .val (.int p5), .val (.int (4 : Int32)), .val (.ref ca), .unset, .unset, .unset, .unset] [] := H527.ifT at_81 (XT.i0_eq_t q1)
        have H529 : Hr x b_at Z EL1 1 4 hs3 [ca] 111 #[.val (.int p0), .val (.int p1), .val (.int p2), .val (.int p3), .val (.int p4), .val (.int p5), .val (.int (4 : Int32)), .val (.ref ca), .unset, .unset, .unset, .unset] [.int (1 : Int32)] := H528.iconst at_110
        exact H529.finZ at_111 (t := .boolean) (by first | rfl | decide) ⟨rfl, rfl⟩ sub0
      · have z529 := q1
        have H530 : Hr x b_at Z EL1 1 4 hs3 [ca] 84 #[.val (.int p0), .val (.int p1), .val (.int p2), .val (.int p3), .val (.int p4), .val (.int p5), .val (.int (4 : Int32)), .val (.ref ca), .unset, .unset, .unset, .unset] [] := H527.ifF at_81 (XT.i0_eq_f q1)
        have H531 : Hr x b_at Z EL1 1 4 hs3 [ca] 86 #[.val (.int p0), .val (.int p1), .val (.int p2), .val (.int p3), .val (.int p4), .val (.int p5), .val (.int (4 : Int32)), .val (.ref ca), .unset, .unset, .unset, .unset] [.int (4 : Int32)] := H530.iload at_84
        have H532 : Hr x b_at Z EL1 1 4 hs3 [ca] 87 #[.val (.int p0), .val (.int p1), .val (.int p2), .val (.int p3), .val (.int p4), .val (.int p5), .val (.int (4 : Int32)), .val (.ref ca), .unset, .unset, .unset, .unset] [.int (2 : Int32), .int (4 : Int32)] := H531.iconst at_86
        have H533 : Hr x b_at Z EL1 1 4 hs3 [ca] 90 #[.val (.int p0), .val (.int p1), .val (.int p2), .val (.int p3), .val (.int p4), .val (.int p5), .val (.int (4 : Int32)), .val (.ref ca), .unset, .unset, .unset, .unset] [] := H532.icmpF at_87 (XT.ii_le_f (by decide))
        have H534 : Hr x b_at Z EL1 1 4 hs3 [ca] 92 #[.val (.int p0), .val (.int p1), .val (.int p2), .val (.int p3), .val (.int p4), .val (.int p5), .val (.int (4 : Int32)), .val (.ref ca), .unset, .unset, .unset, .unset] [.ref ca] := H533.aload at_90
        have H535 : Hr x b_at Z EL1 1 4 hs3 [ca] 93 #[.val (.int p0), .val (.int p1), .val (.int p2), .val (.int p3), .val (.int p4), .val (.int p5), .val (.int (4 : Int32)), .val (.ref ca), .unset, .unset, .unset, .unset] [.int (2 : Int32), .ref ca] := H534.iconst at_92
        have H536 : Hr x b_at Z EL1 1 4 hs3 [ca] 94 #[.val (.int p0), .val (.int p1), .val (.int p2), .val (.int p3), .val (.int p4), .val (.int p5), .val (.int (4 : Int32)), .val (.ref ca), .unset, .unset, .unset, .unset] [.int (dr p2)] := H535.caload Fc at_93 (i := 2) rfl rfl
        by_cases q2 : dr p2 = 0
        · have z536 := q2
          have H537 : Hr x b_at Z EL1 1 4 hs3 [ca] 110 #[.val (.int p0), .val (.int p1), .val (.int p2), .val (.int p3), .val (.int p4), .val (.int p5), .val (.int (4 : Int32)), .val (.ref ca), .unset, .unset, .unset, .unset] [] := H536.ifT at_94 (XT.i0_eq_t q2)
          have H538 : Hr x b_at Z EL1 1 4 hs3 [ca] 111 #[.val (.int p0), .val (.int p1), .val (.int p2), .val (.int p3), .val (.int p4), .val (.int p5), .val (.int (4 : Int32)), .val (.ref ca), .unset, .unset, .unset, .unset] [.int (1 : Int32)] := H537.iconst at_110
          exact H538.finZ at_111 (t := .boolean) (by first | rfl | decide) ⟨rfl, rfl⟩ sub0
        · have z538 := q2
          have H539 : Hr x b_at Z EL1 1 4 hs3 [ca] 97 #[.val (.int p0), .val (.int p1), .val (.int p2), .val (.int p3), .val (.int p4), .val (.int p5), .val (.int (4 : Int32)), .val (.ref ca), .unset, .unset, .unset, .unset] [] := H536.ifF at_94 (XT.i0_eq_f q2)
          have H540 : Hr x b_at Z EL1 1 4 hs3 [ca] 99 #[.val (.int p0), .val (.int p1), .val (.int p2), .val (.int p3), .val (.int p4), .val (.int p5), .val (.int (4 : Int32)), .val (.ref ca), .unset, .unset, .unset, .unset] [.int (4 : Int32)] := H539.iload at_97
          have H541 : Hr x b_at Z EL1 1 4 hs3 [ca] 100 #[.val (.int p0), .val (.int p1), .val (.int p2), .val (.int p3), .val (.int p4), .val (.int p5), .val (.int (4 : Int32)), .val (.ref ca), .unset, .unset, .unset, .unset] [.int (3 : Int32), .int (4 : Int32)] := H540.iconst at_99
          have H542 : Hr x b_at Z EL1 1 4 hs3 [ca] 103 #[.val (.int p0), .val (.int p1), .val (.int p2), .val (.int p3), .val (.int p4), .val (.int p5), .val (.int (4 : Int32)), .val (.ref ca), .unset, .unset, .unset, .unset] [] := H541.icmpF at_100 (XT.ii_le_f (by decide))
          have H543 : Hr x b_at Z EL1 1 4 hs3 [ca] 105 #[.val (.int p0), .val (.int p1), .val (.int p2), .val (.int p3), .val (.int p4), .val (.int p5), .val (.int (4 : Int32)), .val (.ref ca), .unset, .unset, .unset, .unset] [.ref ca] := H542.aload at_103
          have H544 : Hr x b_at Z EL1 1 4 hs3 [ca] 106 #[.val (.int p0), .val (.int p1), .val (.int p2), .val (.int p3), .val (.int p4), .val (.int p5), .val (.int (4 : Int32)), .val (.ref ca), .unset, .unset, .unset, .unset] [.int (3 : Int32), .ref ca] := H543.iconst at_105
          have H545 : Hr x b_at Z EL1 1 4 hs3 [ca] 107 #[.val (.int p0), .val (.int p1), .val (.int p2), .val (.int p3), .val (.int p4), .val (.int p5), .val (.int (4 : Int32)), .val (.ref ca), .unset, .unset, .unset, .unset] [.int (dr p3)] := H544.caload Fc at_106 (i := 3) rfl rfl
          by_cases q3 : dr p3 = 0
          · have z545 := q3
            have H546 : Hr x b_at Z EL1 1 4 hs3 [ca] 110 #[.val (.int p0), .val (.int p1), .val (.int p2), .val (.int p3), .val (.int p4), .val (.int p5), .val (.int (4 : Int32)), .val (.ref ca), .unset, .unset, .unset, .unset] [] := H545.ifF at_107 (XT.i0_ne_f q3)
            have H547 : Hr x b_at Z EL1 1 4 hs3 [ca] 111 #[.val (.int p0), .val (.int p1), .val (.int p2), .val (.int p3), .val (.int p4), .val (.int p5), .val (.int (4 : Int32)), .val (.ref ca), .unset, .unset, .unset, .unset] [.int (1 : Int32)] := H546.iconst at_110
            exact H547.finZ at_111 (t := .boolean) (by first | rfl | decide) ⟨rfl, rfl⟩ sub0
          · have z547 := q3
            have H548 : Hr x b_at Z EL1 1 4 hs3 [ca] 112 #[.val (.int p0), .val (.int p1), .val (.int p2), .val (.int p3), .val (.int p4), .val (.int p5), .val (.int (4 : Int32)), .val (.ref ca), .unset, .unset, .unset, .unset] [] := H545.ifT at_107 (XT.i0_ne_t q3)
            have H549 : Hr x b_at Z EL1 1 4 hs3 [ca] 114 #[.val (.int p0), .val (.int p1), .val (.int p2), .val (.int p3), .val (.int p4), .val (.int p5), .val (.int (4 : Int32)), .val (.ref ca), .unset, .unset, .unset, .unset] [.int (4 : Int32)] := H548.iload at_112
            have H550 : Hr x b_at Z EL1 1 4 hs3 [ca] 116 #[.val (.int p0), .val (.int p1), .val (.int p2), .val (.int p3), .val (.int p4), .val (.int p5), .val (.int (4 : Int32)), .val (.ref ca), .val (.int (4 : Int32)), .unset, .unset, .unset] [] := H549.istore at_114
            have H551 : Hr x b_at Z EL1 1 4 hs3 [ca] 118 #[.val (.int p0), .val (.int p1), .val (.int p2), .val (.int p3), .val (.int p4), .val (.int p5), .val (.int (4 : Int32)), .val (.ref ca), .val (.int (4 : Int32)), .unset, .unset, .unset] [.int (4 : Int32)] := H550.iload at_116
            have H552 : Hr x b_at Z EL1 1 4 hs3 [ca] 119 #[.val (.int p0), .val (.int p1), .val (.int p2), .val (.int p3), .val (.int p4), .val (.int p5), .val (.int (4 : Int32)), .val (.ref ca), .val (.int (4 : Int32)), .unset, .unset, .unset] [.int (1 : Int32), .int (4 : Int32)] := H551.iconst at_118
            have H553 : Hr x b_at Z EL1 1 4 hs3 [ca] 122 #[.val (.int p0), .val (.int p1), .val (.int p2), .val (.int p3), .val (.int p4), .val (.int p5), .val (.int (4 : Int32)), .val (.ref ca), .val (.int (4 : Int32)), .unset, .unset, .unset] [] := H552.icmpF at_119 (XT.ii_le_f (by decide))
            have H554 : Hr x b_at Z EL1 1 4 hs3 [ca] 124 #[.val (.int p0), .val (.int p1), .val (.int p2), .val (.int p3), .val (.int p4), .val (.int p5), .val (.int (4 : Int32)), .val (.ref ca), .val (.int (4 : Int32)), .unset, .unset, .unset] [.int (4 : Int32)] := H553.iload at_122
            have H555 : Hr x b_at Z EL1 1 4 hs3 [ca] 126 #[.val (.int p0), .val (.int p1), .val (.int p2), .val (.int p3), .val (.int p4), .val (.int p5), .val (.int (4 : Int32)), .val (.ref ca), .val (.int (4 : Int32)), .unset, .unset, .unset] [.ref ca, .int (4 : Int32)] := H554.aload at_124
            have H556 : Hr x b_at Z EL1 1 4 hs3 [ca] 127 #[.val (.int p0), .val (.int p1), .val (.int p2), .val (.int p3), .val (.int p4), .val (.int p5), .val (.int (4 : Int32)), .val (.ref ca), .val (.int (4 : Int32)), .unset, .unset, .unset] [.int (0 : Int32), .ref ca, .int (4 : Int32)] := H555.iconst at_126
            have H557 : Hr x b_at Z EL1 1 4 hs3 [ca] 128 #[.val (.int p0), .val (.int p1), .val (.int p2), .val (.int p3), .val (.int p4), .val (.int p5), .val (.int (4 : Int32)), .val (.ref ca), .val (.int (4 : Int32)), .unset, .unset, .unset] [.int (dr p0), .int (4 : Int32)] := H556.caload Fc at_127 (i := 0) rfl rfl
            have H558 : Hr x b_at Z EL1 1 4 hs3 [ca] 130 #[.val (.int p0), .val (.int p1), .val (.int p2), .val (.int p3), .val (.int p4), .val (.int p5), .val (.int (4 : Int32)), .val (.ref ca), .val (.int (4 : Int32)), .unset, .unset, .unset] [.ref ca, .int (dr p0), .int (4 : Int32)] := H557.aload at_128
            have H559 : Hr x b_at Z EL1 1 4 hs3 [ca] 131 #[.val (.int p0), .val (.int p1), .val (.int p2), .val (.int p3), .val (.int p4), .val (.int p5), .val (.int (4 : Int32)), .val (.ref ca), .val (.int (4 : Int32)), .unset, .unset, .unset] [.int (1 : Int32), .ref ca, .int (dr p0), .int (4 : Int32)] := H558.iconst at_130
            have H560 : Hr x b_at Z EL1 1 4 hs3 [ca] 132 #[.val (.int p0), .val (.int p1), .val (.int p2), .val (.int p3), .val (.int p4), .val (.int p5), .val (.int (4 : Int32)), .val (.ref ca), .val (.int (4 : Int32)), .unset, .unset, .unset] [.int (dr p1), .int (dr p0), .int (4 : Int32)] := H559.caload Fc at_131 (i := 1) rfl rfl
            obtain ⟨_, hp0, _, ⟨rfl, rfl, ep0⟩, Kp0, H561⟩ := H560.callS (argsL := [.int (dr p0), .int (dr p1)]) (rest := [.int (4 : Int32)]) (Wr := 1) (ct_pair hw x.l x.nar x.kn hnar hs3 (dr p0) (dr p1)) sub0 (w140 hw) (w141 hw) (w3 hw) (w142 hw) at_132 pd_pair rfl (hf := by first | decide | (simp [b_at, Bx.R]; done) | (simp [b_at, Bx.R]; omega)) (hl := by first | decide | (simp [b_at, Bx.R]; done) | (simp [b_at, Bx.R]; omega)) (hc := by first | decide | (simp [b_at, Bx.R]; done) | (simp [b_at, Bx.R]; omega)) (hs := by first | decide | (simp [b_at, Bx.R]; done) | (simp [b_at, Bx.R]; omega))
            rw [ep0] at H561
            have H561 : Hr x b_at Z EL1 1 4 hs3 [ca] 135 #[.val (.int p0), .val (.int p1), .val (.int p2), .val (.int p3), .val (.int p4), .val (.int p5), .val (.int (4 : Int32)), .val (.ref ca), .val (.int (4 : Int32)), .unset, .unset, .unset] [.int (b01 (hiB (dr p0) && loB (dr p1))), .int (4 : Int32)] := H561
            have H562 : Hr x b_at Z EL1 1 4 hs3 [ca] 136 #[.val (.int p0), .val (.int p1), .val (.int p2), .val (.int p3), .val (.int p4), .val (.int p5), .val (.int (4 : Int32)), .val (.ref ca), .val (.int (4 : Int32)), .unset, .unset, .unset] [.int ((4 : Int32) - (b01 (hiB (dr p0) && loB (dr p1))))] := H561.isub at_135
            have H563 : Hr x b_at Z EL1 1 4 hs3 [ca] 138 #[.val (.int p0), .val (.int p1), .val (.int p2), .val (.int p3), .val (.int p4), .val (.int p5), .val (.int (4 : Int32)), .val (.ref ca), .val (.int ((4 : Int32) - (b01 (hiB (dr p0) && loB (dr p1))))), .unset, .unset, .unset] [] := H562.istore at_136
            have H564 : Hr x b_at Z EL1 1 4 hs3 [ca] 140 #[.val (.int p0), .val (.int p1), .val (.int p2), .val (.int p3), .val (.int p4), .val (.int p5), .val (.int (4 : Int32)), .val (.ref ca), .val (.int ((4 : Int32) - (b01 (hiB (dr p0) && loB (dr p1))))), .unset, .unset, .unset] [.int (4 : Int32)] := H563.iload at_138
            have H565 : Hr x b_at Z EL1 1 4 hs3 [ca] 141 #[.val (.int p0), .val (.int p1), .val (.int p2), .val (.int p3), .val (.int p4), .val (.int p5), .val (.int (4 : Int32)), .val (.ref ca), .val (.int ((4 : Int32) - (b01 (hiB (dr p0) && loB (dr p1))))), .unset, .unset, .unset] [.int (2 : Int32), .int (4 : Int32)] := H564.iconst at_140
            have H566 : Hr x b_at Z EL1 1 4 hs3 [ca] 144 #[.val (.int p0), .val (.int p1), .val (.int p2), .val (.int p3), .val (.int p4), .val (.int p5), .val (.int (4 : Int32)), .val (.ref ca), .val (.int ((4 : Int32) - (b01 (hiB (dr p0) && loB (dr p1))))), .unset, .unset, .unset] [] := H565.icmpF at_141 (XT.ii_le_f (by decide))
            have H567 : Hr x b_at Z EL1 1 4 hs3 [ca] 146 #[.val (.int p0), .val (.int p1), .val (.int p2), .val (.int p3), .val (.int p4), .val (.int p5), .val (.int (4 : Int32)), .val (.ref ca), .val (.int ((4 : Int32) - (b01 (hiB (dr p0) && loB (dr p1))))), .unset, .unset, .unset] [.int ((4 : Int32) - (b01 (hiB (dr p0) && loB (dr p1))))] := H566.iload at_144
            have H568 : Hr x b_at Z EL1 1 4 hs3 [ca] 148 #[.val (.int p0), .val (.int p1), .val (.int p2), .val (.int p3), .val (.int p4), .val (.int p5), .val (.int (4 : Int32)), .val (.ref ca), .val (.int ((4 : Int32) - (b01 (hiB (dr p0) && loB (dr p1))))), .unset, .unset, .unset] [.ref ca, .int ((4 : Int32) - (b01 (hiB (dr p0) && loB (dr p1))))] := H567.aload at_146
            have H569 : Hr x b_at Z EL1 1 4 hs3 [ca] 149 #[.val (.int p0), .val (.int p1), .val (.int p2), .val (.int p3), .val (.int p4), .val (.int p5), .val (.int (4 : Int32)), .val (.ref ca), .val (.int ((4 : Int32) - (b01 (hiB (dr p0) && loB (dr p1))))), .unset, .unset, .unset] [.int (1 : Int32), .ref ca, .int ((4 : Int32) - (b01 (hiB (dr p0) && loB (dr p1))))] := H568.iconst at_148
            have H570 : Hr x b_at Z EL1 1 4 hs3 [ca] 150 #[.val (.int p0), .val (.int p1), .val (.int p2), .val (.int p3), .val (.int p4), .val (.int p5), .val (.int (4 : Int32)), .val (.ref ca), .val (.int ((4 : Int32) - (b01 (hiB (dr p0) && loB (dr p1))))), .unset, .unset, .unset] [.int (dr p1), .int ((4 : Int32) - (b01 (hiB (dr p0) && loB (dr p1))))] := H569.caload Fc at_149 (i := 1) rfl rfl
            have H571 : Hr x b_at Z EL1 1 4 hs3 [ca] 152 #[.val (.int p0), .val (.int p1), .val (.int p2), .val (.int p3), .val (.int p4), .val (.int p5), .val (.int (4 : Int32)), .val (.ref ca), .val (.int ((4 : Int32) - (b01 (hiB (dr p0) && loB (dr p1))))), .unset, .unset, .unset] [.ref ca, .int (dr p1), .int ((4 : Int32) - (b01 (hiB (dr p0) && loB (dr p1))))] := H570.aload at_150
            have H572 : Hr x b_at Z EL1 1 4 hs3 [ca] 153 #[.val (.int p0), .val (.int p1), .val (.int p2), .val (.int p3), .val (.int p4), .val (.int p5), .val (.int (4 : Int32)), .val (.ref ca), .val (.int ((4 : Int32) - (b01 (hiB (dr p0) && loB (dr p1))))), .unset, .unset, .unset] [.int (2 : Int32), .ref ca, .int (dr p1), .int ((4 : Int32) - (b01 (hiB (dr p0) && loB (dr p1))))] := H571.iconst at_152
            have H573 : Hr x b_at Z EL1 1 4 hs3 [ca] 154 #[.val (.int p0), .val (.int p1), .val (.int p2), .val (.int p3), .val (.int p4), .val (.int p5), .val (.int (4 : Int32)), .val (.ref ca), .val (.int ((4 : Int32) - (b01 (hiB (dr p0) && loB (dr p1))))), .unset, .unset, .unset] [.int (dr p2), .int (dr p1), .int ((4 : Int32) - (b01 (hiB (dr p0) && loB (dr p1))))] := H572.caload Fc at_153 (i := 2) rfl rfl
            obtain ⟨_, hp1, _, ⟨rfl, rfl, ep1⟩, Kp1, H574⟩ := H573.callS (argsL := [.int (dr p1), .int (dr p2)]) (rest := [.int ((4 : Int32) - (b01 (hiB (dr p0) && loB (dr p1))))]) (Wr := 1) (ct_pair hw x.l x.nar x.kn hnar hs3 (dr p1) (dr p2)) sub0 (w140 hw) (w141 hw) (w3 hw) (w142 hw) at_154 pd_pair rfl (hf := by first | decide | (simp [b_at, Bx.R]; done) | (simp [b_at, Bx.R]; omega)) (hl := by first | decide | (simp [b_at, Bx.R]; done) | (simp [b_at, Bx.R]; omega)) (hc := by first | decide | (simp [b_at, Bx.R]; done) | (simp [b_at, Bx.R]; omega)) (hs := by first | decide | (simp [b_at, Bx.R]; done) | (simp [b_at, Bx.R]; omega))
            rw [ep1] at H574
            have H574 : Hr x b_at Z EL1 1 4 hs3 [ca] 157 #[.val (.int p0), .val (.int p1), .val (.int p2), .val (.int p3), .val (.int p4), .val (.int p5), .val (.int (4 : Int32)), .val (.ref ca), .val (.int ((4 : Int32) - (b01 (hiB (dr p0) && loB (dr p1))))), .unset, .unset, .unset] [.int (b01 (hiB (dr p1) && loB (dr p2))), .int ((4 : Int32) - (b01 (hiB (dr p0) && loB (dr p1))))] := H574
            have H575 : Hr x b_at Z EL1 1 4 hs3 [ca] 158 #[.val (.int p0), .val (.int p1), .val (.int p2), .val (.int p3), .val (.int p4), .val (.int p5), .val (.int (4 : Int32)), .val (.ref ca), .val (.int ((4 : Int32) - (b01 (hiB (dr p0) && loB (dr p1))))), .unset, .unset, .unset] [.int (((4 : Int32) - (b01 (hiB (dr p0) && loB (dr p1)))) - (b01 (hiB (dr p1) && loB (dr p2))))] := H574.isub at_157
            have H576 : Hr x b_at Z EL1 1 4 hs3 [ca] 160 #[.val (.int p0), .val (.int p1), .val (.int p2), .val (.int p3), .val (.int p4), .val (.int p5), .val (.int (4 : Int32)), .val (.ref ca), .val (.int (((4 : Int32) - (b01 (hiB (dr p0) && loB (dr p1)))) - (b01 (hiB (dr p1) && loB (dr p2))))), .unset, .unset, .unset] [] := H575.istore at_158
            have H577 : Hr x b_at Z EL1 1 4 hs3 [ca] 162 #[.val (.int p0), .val (.int p1), .val (.int p2), .val (.int p3), .val (.int p4), .val (.int p5), .val (.int (4 : Int32)), .val (.ref ca), .val (.int (((4 : Int32) - (b01 (hiB (dr p0) && loB (dr p1)))) - (b01 (hiB (dr p1) && loB (dr p2))))), .unset, .unset, .unset] [.int (4 : Int32)] := H576.iload at_160
            have H578 : Hr x b_at Z EL1 1 4 hs3 [ca] 163 #[.val (.int p0), .val (.int p1), .val (.int p2), .val (.int p3), .val (.int p4), .val (.int p5), .val (.int (4 : Int32)), .val (.ref ca), .val (.int (((4 : Int32) - (b01 (hiB (dr p0) && loB (dr p1)))) - (b01 (hiB (dr p1) && loB (dr p2))))), .unset, .unset, .unset] [.int (3 : Int32), .int (4 : Int32)] := H577.iconst at_162
            have H579 : Hr x b_at Z EL1 1 4 hs3 [ca] 166 #[.val (.int p0), .val (.int p1), .val (.int p2), .val (.int p3), .val (.int p4), .val (.int p5), .val (.int (4 : Int32)), .val (.ref ca), .val (.int (((4 : Int32) - (b01 (hiB (dr p0) && loB (dr p1)))) - (b01 (hiB (dr p1) && loB (dr p2))))), .unset, .unset, .unset] [] := H578.icmpF at_163 (XT.ii_le_f (by decide))
            have H580 : Hr x b_at Z EL1 1 4 hs3 [ca] 168 #[.val (.int p0), .val (.int p1), .val (.int p2), .val (.int p3), .val (.int p4), .val (.int p5), .val (.int (4 : Int32)), .val (.ref ca), .val (.int (((4 : Int32) - (b01 (hiB (dr p0) && loB (dr p1)))) - (b01 (hiB (dr p1) && loB (dr p2))))), .unset, .unset, .unset] [.int (((4 : Int32) - (b01 (hiB (dr p0) && loB (dr p1)))) - (b01 (hiB (dr p1) && loB (dr p2))))] := H579.iload at_166
            have H581 : Hr x b_at Z EL1 1 4 hs3 [ca] 170 #[.val (.int p0), .val (.int p1), .val (.int p2), .val (.int p3), .val (.int p4), .val (.int p5), .val (.int (4 : Int32)), .val (.ref ca), .val (.int (((4 : Int32) - (b01 (hiB (dr p0) && loB (dr p1)))) - (b01 (hiB (dr p1) && loB (dr p2))))), .unset, .unset, .unset] [.ref ca, .int (((4 : Int32) - (b01 (hiB (dr p0) && loB (dr p1)))) - (b01 (hiB (dr p1) && loB (dr p2))))] := H580.aload at_168
            have H582 : Hr x b_at Z EL1 1 4 hs3 [ca] 171 #[.val (.int p0), .val (.int p1), .val (.int p2), .val (.int p3), .val (.int p4), .val (.int p5), .val (.int (4 : Int32)), .val (.ref ca), .val (.int (((4 : Int32) - (b01 (hiB (dr p0) && loB (dr p1)))) - (b01 (hiB (dr p1) && loB (dr p2))))), .unset, .unset, .unset] [.int (2 : Int32), .ref ca, .int (((4 : Int32) - (b01 (hiB (dr p0) && loB (dr p1)))) - (b01 (hiB (dr p1) && loB (dr p2))))] := H581.iconst at_170
            have H583 : Hr x b_at Z EL1 1 4 hs3 [ca] 172 #[.val (.int p0), .val (.int p1), .val (.int p2), .val (.int p3), .val (.int p4), .val (.int p5), .val (.int (4 : Int32)), .val (.ref ca), .val (.int (((4 : Int32) - (b01 (hiB (dr p0) && loB (dr p1)))) - (b01 (hiB (dr p1) && loB (dr p2))))), .unset, .unset, .unset] [.int (dr p2), .int (((4 : Int32) - (b01 (hiB (dr p0) && loB (dr p1)))) - (b01 (hiB (dr p1) && loB (dr p2))))] := H582.caload Fc at_171 (i := 2) rfl rfl
            have H584 : Hr x b_at Z EL1 1 4 hs3 [ca] 174 #[.val (.int p0), .val (.int p1), .val (.int p2), .val (.int p3), .val (.int p4), .val (.int p5), .val (.int (4 : Int32)), .val (.ref ca), .val (.int (((4 : Int32) - (b01 (hiB (dr p0) && loB (dr p1)))) - (b01 (hiB (dr p1) && loB (dr p2))))), .unset, .unset, .unset] [.ref ca, .int (dr p2), .int (((4 : Int32) - (b01 (hiB (dr p0) && loB (dr p1)))) - (b01 (hiB (dr p1) && loB (dr p2))))] := H583.aload at_172
            have H585 : Hr x b_at Z EL1 1 4 hs3 [ca] 175 #[.val (.int p0), .val (.int p1), .val (.int p2), .val (.int p3), .val (.int p4), .val (.int p5), .val (.int (4 : Int32)), .val (.ref ca), .val (.int (((4 : Int32) - (b01 (hiB (dr p0) && loB (dr p1)))) - (b01 (hiB (dr p1) && loB (dr p2))))), .unset, .unset, .unset] [.int (3 : Int32), .ref ca, .int (dr p2), .int (((4 : Int32) - (b01 (hiB (dr p0) && loB (dr p1)))) - (b01 (hiB (dr p1) && loB (dr p2))))] := H584.iconst at_174
            have H586 : Hr x b_at Z EL1 1 4 hs3 [ca] 176 #[.val (.int p0), .val (.int p1), .val (.int p2), .val (.int p3), .val (.int p4), .val (.int p5), .val (.int (4 : Int32)), .val (.ref ca), .val (.int (((4 : Int32) - (b01 (hiB (dr p0) && loB (dr p1)))) - (b01 (hiB (dr p1) && loB (dr p2))))), .unset, .unset, .unset] [.int (dr p3), .int (dr p2), .int (((4 : Int32) - (b01 (hiB (dr p0) && loB (dr p1)))) - (b01 (hiB (dr p1) && loB (dr p2))))] := H585.caload Fc at_175 (i := 3) rfl rfl
            obtain ⟨_, hp2, _, ⟨rfl, rfl, ep2⟩, Kp2, H587⟩ := H586.callS (argsL := [.int (dr p2), .int (dr p3)]) (rest := [.int (((4 : Int32) - (b01 (hiB (dr p0) && loB (dr p1)))) - (b01 (hiB (dr p1) && loB (dr p2))))]) (Wr := 1) (ct_pair hw x.l x.nar x.kn hnar hs3 (dr p2) (dr p3)) sub0 (w140 hw) (w141 hw) (w3 hw) (w142 hw) at_176 pd_pair rfl (hf := by first | decide | (simp [b_at, Bx.R]; done) | (simp [b_at, Bx.R]; omega)) (hl := by first | decide | (simp [b_at, Bx.R]; done) | (simp [b_at, Bx.R]; omega)) (hc := by first | decide | (simp [b_at, Bx.R]; done) | (simp [b_at, Bx.R]; omega)) (hs := by first | decide | (simp [b_at, Bx.R]; done) | (simp [b_at, Bx.R]; omega))
            rw [ep2] at H587
            have H587 : Hr x b_at Z EL1 1 4 hs3 [ca] 179 #[.val (.int p0), .val (.int p1), .val (.int p2), .val (.int p3), .val (.int p4), .val (.int p5), .val (.int (4 : Int32)), .val (.ref ca), .val (.int (((4 : Int32) - (b01 (hiB (dr p0) && loB (dr p1)))) - (b01 (hiB (dr p1) && loB (dr p2))))), .unset, .unset, .unset] [.int (b01 (hiB (dr p2) && loB (dr p3))), .int (((4 : Int32) - (b01 (hiB (dr p0) && loB (dr p1)))) - (b01 (hiB (dr p1) && loB (dr p2))))] := H587
            have H588 : Hr x b_at Z EL1 1 4 hs3 [ca] 180 #[.val (.int p0), .val (.int p1), .val (.int p2), .val (.int p3), .val (.int p4), .val (.int p5), .val (.int (4 : Int32)), .val (.ref ca), .val (.int (((4 : Int32) - (b01 (hiB (dr p0) && loB (dr p1)))) - (b01 (hiB (dr p1) && loB (dr p2))))), .unset, .unset, .unset] [.int ((((4 : Int32) - (b01 (hiB (dr p0) && loB (dr p1)))) - (b01 (hiB (dr p1) && loB (dr p2)))) - (b01 (hiB (dr p2) && loB (dr p3))))] := H587.isub at_179
            have H589 : Hr x b_at Z EL1 1 4 hs3 [ca] 182 #[.val (.int p0), .val (.int p1), .val (.int p2), .val (.int p3), .val (.int p4), .val (.int p5), .val (.int (4 : Int32)), .val (.ref ca), .val (.int ((((4 : Int32) - (b01 (hiB (dr p0) && loB (dr p1)))) - (b01 (hiB (dr p1) && loB (dr p2)))) - (b01 (hiB (dr p2) && loB (dr p3))))), .unset, .unset, .unset] [] := H588.istore at_180
            have H590 : Hr x b_at Z EL1 1 4 hs3 [ca] 184 #[.val (.int p0), .val (.int p1), .val (.int p2), .val (.int p3), .val (.int p4), .val (.int p5), .val (.int (4 : Int32)), .val (.ref ca), .val (.int ((((4 : Int32) - (b01 (hiB (dr p0) && loB (dr p1)))) - (b01 (hiB (dr p1) && loB (dr p2)))) - (b01 (hiB (dr p2) && loB (dr p3))))), .unset, .unset, .unset] [.int p5] := H589.iload at_182
            have H591 : Hr x b_at Z EL1 1 4 hs3 [ca] 186 #[.val (.int p0), .val (.int p1), .val (.int p2), .val (.int p3), .val (.int p4), .val (.int p5), .val (.int (4 : Int32)), .val (.ref ca), .val (.int ((((4 : Int32) - (b01 (hiB (dr p0) && loB (dr p1)))) - (b01 (hiB (dr p1) && loB (dr p2)))) - (b01 (hiB (dr p2) && loB (dr p3))))), .unset, .unset, .unset] [.int ((((4 : Int32) - (b01 (hiB (dr p0) && loB (dr p1)))) - (b01 (hiB (dr p1) && loB (dr p2)))) - (b01 (hiB (dr p2) && loB (dr p3)))), .int p5] := H590.iload at_184
            obtain ⟨mx, hmx⟩ : ∃ r, r = if p5 < ((((4 : Int32) - (b01 (hiB (dr p0) && loB (dr p1)))) - (b01 (hiB (dr p1) && loB (dr p2)))) - (b01 (hiB (dr p2) && loB (dr p3)))) then ((((4 : Int32) - (b01 (hiB (dr p0) && loB (dr p1)))) - (b01 (hiB (dr p1) && loB (dr p2)))) - (b01 (hiB (dr p2) && loB (dr p3)))) else p5 := ⟨_, rfl⟩
            obtain ⟨_, hq, _, ⟨rfl, rfl, eq⟩, Kq, H592⟩ := H591.callS (argsL := [.int p5, .int ((((4 : Int32) - (b01 (hiB (dr p0) && loB (dr p1)))) - (b01 (hiB (dr p1) && loB (dr p2)))) - (b01 (hiB (dr p2) && loB (dr p3))))]) (rest := []) (Wr := 0) (ct_mmax hw x.l x.nar x.kn hnar hs3 p5 ((((4 : Int32) - (b01 (hiB (dr p0) && loB (dr p1)))) - (b01 (hiB (dr p1) && loB (dr p2)))) - (b01 (hiB (dr p2) && loB (dr p3)))) mx hmx) sub0 (w6 hw) (w7 hw) (w8 hw) (w9 hw) at_186 pd_mmax rfl (hf := by first | decide | (simp [b_at, Bx.R]; done) | (simp [b_at, Bx.R]; omega)) (hl := by first | decide | (simp [b_at, Bx.R]; done) | (simp [b_at, Bx.R]; omega)) (hc := by first | decide | (simp [b_at, Bx.R]; done) | (simp [b_at, Bx.R]; omega)) (hs := by first | decide | (simp [b_at, Bx.R]; done) | (simp [b_at, Bx.R]; omega))
            rw [eq] at H592
            have H592 : Hr x b_at Z EL1 1 4 hs3 [ca] 189 #[.val (.int p0), .val (.int p1), .val (.int p2), .val (.int p3), .val (.int p4), .val (.int p5), .val (.int (4 : Int32)), .val (.ref ca), .val (.int ((((4 : Int32) - (b01 (hiB (dr p0) && loB (dr p1)))) - (b01 (hiB (dr p1) && loB (dr p2)))) - (b01 (hiB (dr p2) && loB (dr p3))))), .unset, .unset, .unset] [.int mx] := H592
            have hge := max_ge hmx
            have hcnt : ((((4 : Int32) - (b01 (hiB (dr p0) && loB (dr p1)))) - (b01 (hiB (dr p1) && loB (dr p2)))) - (b01 (hiB (dr p2) && loB (dr p3)))) = Int32.ofNat ([dr p0, dr p1, dr p2, dr p3].length - cpn [dr p0, dr p1, dr p2, dr p3]) := cnt4 (dr p0) (dr p1) (dr p2) (dr p3)
            rw [hcnt] at hge
            have hch : CHL [dr p0, dr p1, dr p2, dr p3] := fun c hc => by simp only [List.mem_cons, List.not_mem_nil, or_false] at hc; rcases hc with rfl | rfl | rfl | rfl <;> exact chr_dr _
            have hnz : ∀ c ∈ [dr p0, dr p1, dr p2, dr p3], ¬ c = 0 := fun c hc => by simp only [List.mem_cons, List.not_mem_nil, or_false] at hc; rcases hc with rfl | rfl | rfl | rfl; exact q0; exact q1; exact q2; exact q3
            have H593 : Hr x b_at Z EL1 1 4 hs3 [ca] 191 #[.val (.int p0), .val (.int p1), .val (.int p2), .val (.int p3), .val (.int p4), .val (.int p5), .val (.int (4 : Int32)), .val (.ref ca), .val (.int ((((4 : Int32) - (b01 (hiB (dr p0) && loB (dr p1)))) - (b01 (hiB (dr p1) && loB (dr p2)))) - (b01 (hiB (dr p2) && loB (dr p3))))), .val (.int mx), .unset, .unset] [] := H592.istore at_189
            obtain ⟨h3, E3, ⟨X3, D3, U3⟩, H594⟩ := H593.new (w10 hw) (w11 hw) (w12 hw) at_191 (by first | decide | (simp [b_at, Bx.R]; done) | (simp [b_at, Bx.R]; omega)) (by first | decide | (simp [b_at, Bx.R]; done) | (simp [b_at, Bx.R]; omega))
            obtain ⟨s, g_s⟩ : ∃ z, z = hs3.size := ⟨_, rfl⟩
            rw [← g_s] at X3 D3 U3 H594
            have H594 : Hr x b_at Z EL1 2 8 h3 [s, ca] 194 #[.val (.int p0), .val (.int p1), .val (.int p2), .val (.int p3), .val (.int p4), .val (.int p5), .val (.int (4 : Int32)), .val (.ref ca), .val (.int ((((4 : Int32) - (b01 (hiB (dr p0) && loB (dr p1)))) - (b01 (hiB (dr p1) && loB (dr p2)))) - (b01 (hiB (dr p2) && loB (dr p3))))), .val (.int mx), .unset, .unset] [.ref s] := H594
            have H595 : Hr x b_at Z EL1 2 8 h3 [s, ca] 195 #[.val (.int p0), .val (.int p1), .val (.int p2), .val (.int p3), .val (.int p4), .val (.int p5), .val (.int (4 : Int32)), .val (.ref ca), .val (.int ((((4 : Int32) - (b01 (hiB (dr p0) && loB (dr p1)))) - (b01 (hiB (dr p1) && loB (dr p2)))) - (b01 (hiB (dr p2) && loB (dr p3))))), .val (.int mx), .unset, .unset] [.ref s, .ref s] := H594.dup at_194
            have H596 : Hr x b_at Z EL1 2 8 h3 [s, ca] 197 #[.val (.int p0), .val (.int p1), .val (.int p2), .val (.int p3), .val (.int p4), .val (.int p5), .val (.int (4 : Int32)), .val (.ref ca), .val (.int ((((4 : Int32) - (b01 (hiB (dr p0) && loB (dr p1)))) - (b01 (hiB (dr p1) && loB (dr p2)))) - (b01 (hiB (dr p2) && loB (dr p3))))), .val (.int mx), .unset, .unset] [.ref ca, .ref s, .ref s] := H595.aload at_195
            have Fcd : Fld Z h3 s "java/lang/String" "coder" "B" (.int 0) := D3 (Or.inr (w55 hw)) (ty := .byte) (by decide)
            have Fvl : Fld Z h3 s "java/lang/String" "value" "[B" .null := D3 (Or.inr (w57 hw)) (ty := .array .byte) (by decide)
            obtain ⟨_, h4, _, ⟨rfl, rfl, Fs⟩, K4, H597⟩ := H596.callI (argsL := [.ref ca]) (rest := [.ref s]) (Wr := 1) (a := s) (ct_sini1 hw x.l x.nar x.kn hnar h3 s ca [dr p0, dr p1, dr p2, dr p3] X3 Fcd Fvl (Fc.ext E3) (by simp) (by simp) hch cz O hcz Sd Sh Sl) (sub1 (by simp)) (w13 hw) (w14 hw) (w12 hw) (w15 hw) at_197 pd_sini1 rfl (hf := by first | decide | (simp [b_at, Bx.R]; done) | (simp [b_at, Bx.R]; omega)) (hl := by first | decide | (simp [b_at, Bx.R]; done) | (simp [b_at, Bx.R]; omega)) (hc := by first | decide | (simp [b_at, Bx.R]; done) | (simp [b_at, Bx.R]; omega)) (hs := by first | decide | (simp [b_at, Bx.R]; done) | (simp [b_at, Bx.R]; omega))
            have H597 : Hr x b_at Z EL1 4 20 h4 [s, ca] 200 #[.val (.int p0), .val (.int p1), .val (.int p2), .val (.int p3), .val (.int p4), .val (.int p5), .val (.int (4 : Int32)), .val (.ref ca), .val (.int ((((4 : Int32) - (b01 (hiB (dr p0) && loB (dr p1)))) - (b01 (hiB (dr p1) && loB (dr p2)))) - (b01 (hiB (dr p2) && loB (dr p3))))), .val (.int mx), .unset, .unset] [.ref s] := H597
            have H598 : Hr x b_at Z EL1 4 20 h4 [s, ca] 202 #[.val (.int p0), .val (.int p1), .val (.int p2), .val (.int p3), .val (.int p4), .val (.int p5), .val (.int (4 : Int32)), .val (.ref ca), .val (.int ((((4 : Int32) - (b01 (hiB (dr p0) && loB (dr p1)))) - (b01 (hiB (dr p1) && loB (dr p2)))) - (b01 (hiB (dr p2) && loB (dr p3))))), .val (.int mx), .val (.ref s), .unset] [] := H597.astore at_200
            have H599 : Hr x b_at Z EL1 4 20 h4 [s, ca] 204 #[.val (.int p0), .val (.int p1), .val (.int p2), .val (.int p3), .val (.int p4), .val (.int p5), .val (.int (4 : Int32)), .val (.ref ca), .val (.int ((((4 : Int32) - (b01 (hiB (dr p0) && loB (dr p1)))) - (b01 (hiB (dr p1) && loB (dr p2)))) - (b01 (hiB (dr p2) && loB (dr p3))))), .val (.int mx), .val (.ref s), .unset] [.ref s] := H598.aload at_202
            obtain ⟨nm, h5, E5, H600⟩ := H599.ldcO (n := 16) (w58 hw) (wStr hw) (ew hw) at_204 (by decide) (by decide) hnar (by decide) (by decide)
            have H600 : Hr x b_at Z EL1 6 40 h5 [s, ca] 206 #[.val (.int p0), .val (.int p1), .val (.int p2), .val (.int p3), .val (.int p4), .val (.int p5), .val (.int (4 : Int32)), .val (.ref ca), .val (.int ((((4 : Int32) - (b01 (hiB (dr p0) && loB (dr p1)))) - (b01 (hiB (dr p1) && loB (dr p2)))) - (b01 (hiB (dr p2) && loB (dr p3))))), .val (.int mx), .val (.ref s), .unset] [.ref nm, .ref s] := H600
            have H601 : Hr x b_at Z EL1 6 40 h5 [s, ca] 208 #[.val (.int p0), .val (.int p1), .val (.int p2), .val (.int p3), .val (.int p4), .val (.int p5), .val (.int (4 : Int32)), .val (.ref ca), .val (.int ((((4 : Int32) - (b01 (hiB (dr p0) && loB (dr p1)))) - (b01 (hiB (dr p1) && loB (dr p2)))) - (b01 (hiB (dr p2) && loB (dr p3))))), .val (.int mx), .val (.ref s), .unset] [.int mx, .ref nm, .ref s] := H600.iload at_206
            obtain ⟨_, h6, _, ⟨rfl, rfl, e6⟩, K6, H602⟩ := H601.callS (argsL := [.ref s, .ref nm, .int mx]) (rest := []) (Wr := 0) (ct_nchk hw x.l x.nar x.kn hnar h5 nm mx s [dr p0, dr p1, dr p2, dr p3] (Fs.ext E5) cz O hcz (by simp) (by simp) hch Sd Sh Sl hnz f hfr P hge) sub0 (w61 hw) (w62 hw) (w63 hw) (w64 hw) at_208 pd_nchk rfl (hf := by first | decide | (simp [b_at, Bx.R]; done) | (simp [b_at, Bx.R]; omega)) (hl := by first | decide | (simp [b_at, Bx.R]; done) | (simp [b_at, Bx.R]; omega)) (hc := by first | decide | (simp [b_at, Bx.R]; done) | (simp [b_at, Bx.R]; omega)) (hs := by first | decide | (simp [b_at, Bx.R]; done) | (simp [b_at, Bx.R]; omega))
            rw [e6] at H602
            have H602 : Hr x b_at Z EL1 6 40 h5 [s, ca] 211 #[.val (.int p0), .val (.int p1), .val (.int p2), .val (.int p3), .val (.int p4), .val (.int p5), .val (.int (4 : Int32)), .val (.ref ca), .val (.int ((((4 : Int32) - (b01 (hiB (dr p0) && loB (dr p1)))) - (b01 (hiB (dr p1) && loB (dr p2)))) - (b01 (hiB (dr p2) && loB (dr p3))))), .val (.int mx), .val (.ref s), .unset] [.ref s] := H602
            have H603 : Hr x b_at Z EL1 6 40 h5 [s, ca] 213 #[.val (.int p0), .val (.int p1), .val (.int p2), .val (.int p3), .val (.int p4), .val (.int p5), .val (.int (4 : Int32)), .val (.ref ca), .val (.int ((((4 : Int32) - (b01 (hiB (dr p0) && loB (dr p1)))) - (b01 (hiB (dr p1) && loB (dr p2)))) - (b01 (hiB (dr p2) && loB (dr p3))))), .val (.int mx), .val (.ref s), .val (.ref s)] [] := H602.astore at_211
            have H604 : Hr x b_at Z EL1 6 40 h5 [s, ca] 215 #[.val (.int p0), .val (.int p1), .val (.int p2), .val (.int p3), .val (.int p4), .val (.int p5), .val (.int (4 : Int32)), .val (.ref ca), .val (.int ((((4 : Int32) - (b01 (hiB (dr p0) && loB (dr p1)))) - (b01 (hiB (dr p1) && loB (dr p2)))) - (b01 (hiB (dr p2) && loB (dr p3))))), .val (.int mx), .val (.ref s), .val (.ref s)] [.ref s] := H603.aload at_213
            have H605 : Hr x b_at Z EL1 6 40 h5 [s, ca] 217 #[.val (.int p0), .val (.int p1), .val (.int p2), .val (.int p3), .val (.int p4), .val (.int p5), .val (.int (4 : Int32)), .val (.ref ca), .val (.int ((((4 : Int32) - (b01 (hiB (dr p0) && loB (dr p1)))) - (b01 (hiB (dr p1) && loB (dr p2)))) - (b01 (hiB (dr p2) && loB (dr p3))))), .val (.int mx), .val (.ref s), .val (.ref s)] [.ref s, .ref s] := H604.aload at_215
            have H606 : Hr x b_at Z EL1 6 40 h5 [s, ca] 220 #[.val (.int p0), .val (.int p1), .val (.int p2), .val (.int p3), .val (.int p4), .val (.int p5), .val (.int (4 : Int32)), .val (.ref ca), .val (.int ((((4 : Int32) - (b01 (hiB (dr p0) && loB (dr p1)))) - (b01 (hiB (dr p1) && loB (dr p2)))) - (b01 (hiB (dr p2) && loB (dr p3))))), .val (.int mx), .val (.ref s), .val (.ref s)] [] := H605.acmpF at_217 (by simp [XT.acmp])
            have H607 : Hr x b_at Z EL1 6 40 h5 [s, ca] 221 #[.val (.int p0), .val (.int p1), .val (.int p2), .val (.int p3), .val (.int p4), .val (.int p5), .val (.int (4 : Int32)), .val (.ref ca), .val (.int ((((4 : Int32) - (b01 (hiB (dr p0) && loB (dr p1)))) - (b01 (hiB (dr p1) && loB (dr p2)))) - (b01 (hiB (dr p2) && loB (dr p3))))), .val (.int mx), .val (.ref s), .val (.ref s)] [.int (1 : Int32)] := H606.iconst at_220
            have H608 : Hr x b_at Z EL1 6 40 h5 [s, ca] 225 #[.val (.int p0), .val (.int p1), .val (.int p2), .val (.int p3), .val (.int p4), .val (.int p5), .val (.int (4 : Int32)), .val (.ref ca), .val (.int ((((4 : Int32) - (b01 (hiB (dr p0) && loB (dr p1)))) - (b01 (hiB (dr p1) && loB (dr p2)))) - (b01 (hiB (dr p2) && loB (dr p3))))), .val (.int mx), .val (.ref s), .val (.ref s)] [.int (1 : Int32)] := H607.goto at_221
            exact H608.finZ at_225 (t := .boolean) (by first | rfl | decide) ⟨rfl, rfl⟩ sub0
set_option maxRecDepth 65536 in
set_option maxHeartbeats 4000000 in
theorem comes_1 {Post : Tables → Env → Array Value → State → Outcome → State → Prop} (hpost : ∀ tb e args s v u, (limb_1_1.after args s (.returned v) u = true ∧ limb_1_2.after args s (.returned v) u = true ∧ True) → FramedW s (.returned v) u (Jvm.fieldLocs frame_1_writes args s ++ Jvm.arrayLocs frame_1_arrays args s ++ Jvm.staticLocs frame_1_statics s) 24 1152 → Post tb e args s (.returned v) u) :
    ArmFor flags0 classFile x code maxLocals ret World_1 tables_1 room_1 Calls_1 rest_1 Pre_1 Post := by
  intro l hfl _ _ p e ha hc hk s m args below hf hA hF happ hP
  obtain ⟨hcalls, hrest, hpre⟩ := hP
  obtain ⟨-, -, -, hnamed, -, -, -, hat⟩ := (Spec.applies_iff hf).mp happ
  obtain ⟨hg, hn⟩ := and_e (Cond.before_iff.mp (show (Jvm.Cond.and given_1 narrow_1).before args s = true from hpre))
  obtain ⟨g0, hg⟩ := and_e hg
  obtain ⟨g1, hg⟩ := and_e hg
  obtain ⟨g2, hg⟩ := and_e hg
  obtain ⟨g3, hg⟩ := and_e hg
  obtain ⟨g4, hg⟩ := and_e hg
  obtain ⟨g5, hg⟩ := and_e hg
  obtain ⟨v0, v1, v2, v3, v4, v5, rfl⟩ : ∃ v0 v1 v2 v3 v4 v5 : Value, args = #[v0, v1, v2, v3, v4, v5] := by
    have hs : args.size = 6 := by simpa [Cond.value, given_1] using g0
    obtain ⟨L⟩ := args
    match L, hs with
    | [v0, v1, v2, v3, v4, v5], _ => exact ⟨v0, v1, v2, v3, v4, v5, rfl⟩
  have hw := fun d (hd : d ∈ tables_1) => atoms_spec (ws := Jvm.Cond.code x code maxLocals ret :: tables_1) hat d (List.mem_cons_of_mem _ hd)
  obtain ⟨hsets, hown0⟩ := atoms_of _ (rest_1_c_eq ▸ (show rest_1_c.before _ s = true from hrest))
  obtain ⟨i0, e0⟩ := is_v g1
  obtain rfl : v0 = (.int i0) := Option.some.inj e0
  obtain ⟨i1, e1⟩ := is_v g2
  obtain rfl : v1 = (.int i1) := Option.some.inj e1
  obtain ⟨i2, e2⟩ := is_v g3
  obtain rfl : v2 = (.int i2) := Option.some.inj e2
  obtain ⟨i3, e3⟩ := is_v g4
  obtain rfl : v3 = (.int i3) := Option.some.inj e3
  obtain ⟨i4, e4⟩ := is_v g5
  obtain rfl : v4 = (.int i4) := Option.some.inj e4
  obtain ⟨i5, e5⟩ := is_v hg
  obtain rfl : v5 = (.int i5) := Option.some.inj e5
  have n5 := not_v (Cond.before_iff.mp (hsets _ (List.mem_of_getElem? (i := 2) rfl)))
  obtain ⟨cz, ecz⟩ := is_v (Cond.before_iff.mp (hsets _ (List.mem_of_getElem? (i := 1) rfl)))
  have O : Sta s s.heap "java/lang/String" "COMPACT_STRINGS" "Z" (.int cz) := Sta.start ecz (Or.inl (hsets _ (List.mem_of_getElem? (i := 0) rfl)))
  have hcz : ¬ (cz = (0 : Int32)) := gotF (Cond.eq_ints ecz (Term.int_eval (0))) n5
  have hCH : CHv s EL1 s.vm s.heap := fun p hp => nomatch hp
  obtain ⟨f, ef, rf⟩ := isR_v (Cond.before_iff.mp (hsets _ (List.mem_of_getElem? (i := 8) rfl)))
  have Pf : Sta s s.heap "jdk/internal/util/Preconditions" "SIOOBE_FORMATTER" "Ljava/util/function/BiFunction;" f := Sta.start ef (Or.inl (hsets _ (List.mem_of_getElem? (i := 7) rfl)))
  have Sd := sta_eq (hsets _ (List.mem_of_getElem? (i := 12) rfl)) (hsets _ (List.mem_of_getElem? (i := 11) rfl))
  have Sh := sta_eq (hsets _ (List.mem_of_getElem? (i := 15) rfl)) (hsets _ (List.mem_of_getElem? (i := 14) rfl))
  have Sl := sta_eq (hsets _ (List.mem_of_getElem? (i := 18) rfl)) (hsets _ (List.mem_of_getElem? (i := 17) rfl))
  obtain ⟨n, o, h1, h2, h3, _, L, sn, rfl, ⟨rfl, -⟩, -, -, N, -, hnw, hq⟩ := ct_law hw l false false rfl s.heap i0 i1 i2 i3 i4 i5 f rf Pf cz O hcz Sd Sh Sl tables_1 p e ha hc hk s m _ below hf ((Spec.applies_iff_loose hf).mp happ).1 ⟨rfl, State.Warmed39.refl s, rfl, hCH, Ext.rfl' _, fun _ q => nomatch q⟩ (fun q => nomatch q)
  refine ⟨n, _, h1, h2, h3, hpost _ _ _ _ _ _ ⟨Cond.after_iff.mpr rfl, Cond.after_iff.mpr (eq_i res_at (Term.int_eval (1)) rfl), trivial⟩ ⟨hq.1, hq.2.1, hq.2.2.1, (hq.2.2.2.sift fun y hy => Or.inr (N y hy)).mono (by decide) (by decide)⟩⟩
theorem main_1_1 : Claimed_1_1 := comes_1 fun _ _ _ _ _ _ h hF => ⟨h.1, hF⟩
theorem main_1_2 : Claimed_1_2 := comes_1 fun _ _ _ _ _ _ h hF => ⟨h.2.1, hF⟩
end Jvm.Pilot.@@N@@
namespace Jvm.Pilot.@@N@@
open Jvm Jvm.ClassFile Sem Op Lib Jvm.Free Jvm.Stand Jvm.Pilot.@@N@@.Jvm.D
/-! MADE BY PROGRAM (witnessworld.py) out of the Statement's table words and the real class files: 23 classes; the members and pool entries that the words name. The judged class is class 1, her method 5. -/
namespace start1
open Jvm.ClassFile
def u (s : String) : CpInfo := .utf8 (stringToUtf16 s)
/-- a pool by its gaps: so many unusable entries, then the entry; so many at the end -/
def gap : Nat → List CpInfo → List CpInfo
  | 0, r => r
  | n + 1, r => .unusable :: gap n r
def poolList (es : List (Nat × CpInfo)) (last : Nat) : List CpInfo := es.foldr (fun e r => gap e.1 (e.2 :: r)) (gap last [])
def pool (es : List (Nat × CpInfo)) (last : Nat) : Array CpInfo := ⟨poolList es last⟩
def fileOf (pool : Array CpInfo) (this : Nat) (attrs : Array Attribute := #[]) (ms : Array MethodInfo := #[]) (fl : Nat := 33) (sup : Nat := 0) (ifs : Array Nat := #[]) (fds : Array FieldInfo := #[]) : ClassFile where
  minorVersion := 0
  majorVersion := 65
  constantPool := pool
  accessFlags := fl
  thisClass := this
  superClass := sup
  interfaces := ifs
  fields := fds
  methods := ms
  attributes := attrs
def plain (name : String) (sup : Option ClassId) : Class where
  name := name
  kind := .ordinary
  loader := none
  accessFlags := 33
  super := sup
  interfaces := #[]
  cf := none
  fields := #[]
  methods := #[]
  instanceTypes := #[]
  staticTypes := #[]
  resolved := #[]
  callSites := []
  init := .initialized
  statics := none
  mirror := none

def pool0 : Array CpInfo := pool [(5, u "<init>"), (0, u "()V"), (1, .class_ 10), (1, u "java/lang/Object")] 113

def k0c0 : Code := { maxStack := 0, maxLocals := 1, code := object_method_1_code, exceptionTable := #[], attributes := #[] }
def k0m0 : Method := { name := "<init>", desc := "()V", sig := { parameters := [], returnType := none }, accessFlags := 1, code := some k0c0 }
/-- java/lang/Object -/
def k0 : Class := { plain "java/lang/Object" none with
  accessFlags := 33
  interfaces := #[]
  cf := some (fileOf pool0 8 #[] #[{ accessFlags := 1, nameIndex := 5, descriptorIndex := 6, attributes := #[] }] 33 0 #[] #[])
  fields := #[]
  methods := #[k0m0]
  instanceTypes := #[]
  staticTypes := #[]
  resolved := Array.replicate 124 none
  statics := none }

def pool1 : Array CpInfo := pool [(2, .class_ 4), (1, u "java/lang/Object"), (0, u "<init>"), (0, u "()V"), (0, .integer 55296), (0, .integer 56320), (0, .integer 65535), (0, .integer 56319), (0, .integer 57343), (0, .methodref 13 14), (0, .class_ 15), (0, .nameAndType 16 17), (0, u "com/example/lavoro/lavoro/NamesCheckPinLaw"), (0, u "high"), (0, u "(C)Z"), (0, .methodref 13 19), (0, .nameAndType 20 17), (0, u "low"), (0, .methodref 13 22), (0, .nameAndType 23 24), (0, u "draw"), (0, u "(I)C"), (0, .methodref 13 26), (0, .nameAndType 27 28), (0, u "pair"), (0, u "(CC)I"), (0, .methodref 30 31), (0, .class_ 32), (0, .nameAndType 33 34), (0, u "java/lang/Math"), (0, u "max"), (0, u "(II)I"), (0, .class_ 36), (0, u "java/lang/String"), (0, .methodref 35 38), (0, .nameAndType 5 39), (0, u "([C)V"), (0, .string 41), (0, u "name"), (0, .methodref 43 44), (0, .class_ 45), (0, .nameAndType 46 47), (0, u "com/example/lavoro/lavoro/Names"), (0, u "check"), (0, u "(Ljava/lang/String;Ljava/lang/String;I)Ljava/lang/String;"), (3, u "law"), (0, u "(IIIIII)Z")] 4

def k1m0 : Method := { name := "<init>", desc := "()V", sig := { parameters := [], returnType := none }, accessFlags := 1, code := none }
def k1c1 : Code := { maxStack := 3, maxLocals := 3, code := method_2_code, exceptionTable := #[], attributes := #[] }
def k1m1 : Method := { name := "draw", desc := "(I)C", sig := { parameters := [.int], returnType := some .char }, accessFlags := 10, code := some k1c1 }
def k1c2 : Code := { maxStack := 2, maxLocals := 1, code := method_3_code, exceptionTable := #[], attributes := #[] }
def k1m2 : Method := { name := "high", desc := "(C)Z", sig := { parameters := [.char], returnType := some .boolean }, accessFlags := 10, code := some k1c2 }
def k1c3 : Code := { maxStack := 2, maxLocals := 1, code := method_4_code, exceptionTable := #[], attributes := #[] }
def k1m3 : Method := { name := "low", desc := "(C)Z", sig := { parameters := [.char], returnType := some .boolean }, accessFlags := 10, code := some k1c3 }
def k1c4 : Code := { maxStack := 1, maxLocals := 2, code := method_5_code, exceptionTable := #[], attributes := #[] }
def k1m4 : Method := { name := "pair", desc := "(CC)I", sig := { parameters := [.char, .char], returnType := some .int }, accessFlags := 10, code := some k1c4 }
def k1c5 : Code := { maxStack := 4, maxLocals := 12, code := code, exceptionTable := #[], attributes := #[] }
def k1m5 : Method := { name := "law", desc := "(IIIIII)Z", sig := { parameters := [.int, .int, .int, .int, .int, .int], returnType := some .boolean }, accessFlags := 9, code := some k1c5 }
/-- com/example/lavoro/lavoro/NamesCheckPinLaw -/
def k1 : Class := { plain "com/example/lavoro/lavoro/NamesCheckPinLaw" (some 0) with
  accessFlags := 49
  interfaces := #[]
  cf := some (fileOf pool1 13 #[] #[{ accessFlags := 1, nameIndex := 5, descriptorIndex := 6, attributes := #[] }, { accessFlags := 10, nameIndex := 23, descriptorIndex := 24, attributes := #[] }, { accessFlags := 10, nameIndex := 16, descriptorIndex := 17, attributes := #[] }, { accessFlags := 10, nameIndex := 20, descriptorIndex := 17, attributes := #[] }, { accessFlags := 10, nameIndex := 27, descriptorIndex := 28, attributes := #[] }, { accessFlags := 9, nameIndex := 51, descriptorIndex := 52, attributes := #[] }] 49 2 #[] #[])
  fields := #[]
  methods := #[k1m0, k1m1, k1m2, k1m3, k1m4, k1m5]
  instanceTypes := #[]
  staticTypes := #[]
  resolved := Array.replicate 57 none
  statics := none }

def pool2 : Array CpInfo := pool [(1, .class_ 2), (0, u "java/lang/Math"), (1, .class_ 6), (1, u "java/lang/Object"), (0, u "<init>"), (0, u "()V"), (89, .class_ 100), (1, u "java/lang/Math$RandomNumberGeneratorHolder"), (71, u "negativeZeroFloatBits"), (0, u "J"), (2, u "negativeZeroDoubleBits"), (21, u "max"), (2, u "min"), (43, u "$assertionsDisabled"), (0, u "Z"), (88, u "(II)I"), (2, u "twoToTheDoubleScaleDown"), (0, u "D"), (4, u "twoToTheDoubleScaleUp"), (9, u "E"), (3, u "PI"), (2, u "TAU"), (2, u "DEGREES_TO_RADIANS"), (0, u "RADIANS_TO_DEGREES")] 94

def k2m0 : Method := { name := "<init>", desc := "()V", sig := { parameters := [], returnType := none }, accessFlags := 2, code := none }
def k2c1 : Code := { maxStack := 2, maxLocals := 2, code := jdk_29_method_65_code, exceptionTable := #[], attributes := #[] }
def k2m1 : Method := { name := "max", desc := "(II)I", sig := { parameters := [.int, .int], returnType := some .int }, accessFlags := 9, code := some k2c1 }
def k2c2 : Code := { maxStack := 2, maxLocals := 2, code := jdk_29_method_69_code, exceptionTable := #[], attributes := #[] }
def k2m2 : Method := { name := "min", desc := "(II)I", sig := { parameters := [.int, .int], returnType := some .int }, accessFlags := 9, code := some k2c2 }
/-- java/lang/Math -/
def k2 : Class := { plain "java/lang/Math" (some 0) with
  accessFlags := 49
  interfaces := #[]
  cf := some (fileOf pool2 1 #[.nestMembers #[98]] #[{ accessFlags := 2, nameIndex := 7, descriptorIndex := 8, attributes := #[] }, { accessFlags := 9, nameIndex := 198, descriptorIndex := 335, attributes := #[] }, { accessFlags := 9, nameIndex := 201, descriptorIndex := 335, attributes := #[] }] 49 4 #[] #[{ accessFlags := 25, nameIndex := 354, descriptorIndex := 339, attributes := #[] }, { accessFlags := 25, nameIndex := 358, descriptorIndex := 339, attributes := #[] }, { accessFlags := 25, nameIndex := 361, descriptorIndex := 339, attributes := #[] }, { accessFlags := 26, nameIndex := 364, descriptorIndex := 339, attributes := #[] }, { accessFlags := 26, nameIndex := 365, descriptorIndex := 339, attributes := #[] }, { accessFlags := 26, nameIndex := 172, descriptorIndex := 173, attributes := #[] }, { accessFlags := 26, nameIndex := 176, descriptorIndex := 173, attributes := #[] }, { accessFlags := 8, nameIndex := 344, descriptorIndex := 339, attributes := #[] }, { accessFlags := 8, nameIndex := 338, descriptorIndex := 339, attributes := #[] }, { accessFlags := 4120, nameIndex := 245, descriptorIndex := 246, attributes := #[] }])
  fields := #[{ name := "E", type := .double, accessFlags := 25, slot := 0, constantValue := 0 }, { name := "PI", type := .double, accessFlags := 25, slot := 1, constantValue := 0 }, { name := "TAU", type := .double, accessFlags := 25, slot := 2, constantValue := 0 }, { name := "DEGREES_TO_RADIANS", type := .double, accessFlags := 26, slot := 3, constantValue := 0 }, { name := "RADIANS_TO_DEGREES", type := .double, accessFlags := 26, slot := 4, constantValue := 0 }, { name := "negativeZeroFloatBits", type := .long, accessFlags := 26, slot := 5, constantValue := 0 }, { name := "negativeZeroDoubleBits", type := .long, accessFlags := 26, slot := 6, constantValue := 0 }, { name := "twoToTheDoubleScaleUp", type := .double, accessFlags := 8, slot := 7, constantValue := 0 }, { name := "twoToTheDoubleScaleDown", type := .double, accessFlags := 8, slot := 8, constantValue := 0 }, { name := "$assertionsDisabled", type := .boolean, accessFlags := 4120, slot := 9, constantValue := 0 }]
  methods := #[k2m0, k2m1, k2m2]
  instanceTypes := #[]
  staticTypes := #[.double, .double, .double, .double, .double, .long, .long, .double, .double, .boolean]
  resolved := Array.replicate 460 none
  statics := none }

def pool3 : Array CpInfo := pool [(1, .class_ 2), (0, u "java/io/Serializable"), (0, .class_ 4), (0, u "java/lang/Object")] 2

/-- java/io/Serializable -/
def k3 : Class := { plain "java/io/Serializable" (some 0) with
  accessFlags := 1537
  interfaces := #[]
  cf := some (fileOf pool3 1 #[] #[] 1537 3 #[] #[])
  fields := #[]
  methods := #[]
  instanceTypes := #[]
  staticTypes := #[]
  resolved := Array.replicate 7 none
  statics := none }

def pool4 : Array CpInfo := pool [(1, .class_ 2), (0, u "java/lang/Comparable"), (0, .class_ 4), (0, u "java/lang/Object")] 7

/-- java/lang/Comparable -/
def k4 : Class := { plain "java/lang/Comparable" (some 0) with
  accessFlags := 1537
  interfaces := #[]
  cf := some (fileOf pool4 1 #[] #[] 1537 3 #[] #[])
  fields := #[]
  methods := #[]
  instanceTypes := #[]
  staticTypes := #[]
  resolved := Array.replicate 12 none
  statics := none }

def pool5 : Array CpInfo := pool [(2, .class_ 4), (1, u "java/lang/CharSequence"), (42, .class_ 48), (0, u "java/lang/CharSequence$1CodePointIterator"), (10, .class_ 60), (0, u "java/lang/CharSequence$1CharIterator"), (5, .class_ 67), (0, u "java/lang/Object")] 63

/-- java/lang/CharSequence -/
def k5 : Class := { plain "java/lang/CharSequence" (some 0) with
  accessFlags := 1537
  interfaces := #[]
  cf := some (fileOf pool5 2 #[.nestMembers #[47, 59]] #[] 1537 66 #[] #[])
  fields := #[]
  methods := #[]
  instanceTypes := #[]
  staticTypes := #[]
  resolved := Array.replicate 131 none
  statics := none }

def pool6 : Array CpInfo := pool [(1, .class_ 2), (0, u "java/lang/constant/Constable"), (0, .class_ 4), (0, u "java/lang/Object")] 6

/-- java/lang/constant/Constable -/
def k6 : Class := { plain "java/lang/constant/Constable" (some 0) with
  accessFlags := 1537
  interfaces := #[]
  cf := some (fileOf pool6 1 #[] #[] 1537 3 #[] #[])
  fields := #[]
  methods := #[]
  instanceTypes := #[]
  staticTypes := #[]
  resolved := Array.replicate 11 none
  statics := none }

def pool7 : Array CpInfo := pool [(1, .class_ 2), (0, u "java/lang/constant/ConstantDesc"), (0, .class_ 4), (0, u "java/lang/Object")] 32

/-- java/lang/constant/ConstantDesc -/
def k7 : Class := { plain "java/lang/constant/ConstantDesc" (some 0) with
  accessFlags := 1537
  interfaces := #[]
  cf := some (fileOf pool7 1 #[] #[] 1537 3 #[] #[])
  fields := #[]
  methods := #[]
  instanceTypes := #[]
  staticTypes := #[]
  resolved := Array.replicate 37 none
  statics := none }

def pool8 : Array CpInfo := pool [(1, .methodref 2 3), (0, .class_ 4), (0, .nameAndType 5 6), (0, u "java/lang/Object"), (0, u "<init>"), (0, u "()V"), (2, .fieldref 10 11), (0, .class_ 12), (0, .nameAndType 13 14), (0, u "java/lang/String"), (0, u "value"), (0, u "[B"), (0, .fieldref 10 16), (0, .nameAndType 17 18), (0, u "coder"), (0, u "B"), (2, u "hash"), (0, u "I"), (2, u "hashIsZero"), (0, u "Z"), (0, .methodref 10 28), (0, .nameAndType 5 29), (0, u "([CIILjava/lang/Void;)V"), (7, u "(III)I"), (0, .fieldref 10 39), (0, .nameAndType 40 26), (0, u "COMPACT_STRINGS"), (1, .class_ 44), (1, u "java/lang/StringUTF16"), (0, u "compress"), (1, .methodref 42 48), (0, .nameAndType 49 50), (0, u "coderFromArrayLen"), (0, u "([BI)B"), (28, .class_ 81), (1, u "java/util/Objects"), (15, u "([BII)I"), (9, .class_ 109), (1, u "java/lang/StringLatin1"), (32, u "()Z"), (34, .methodref 42 178), (0, .nameAndType 45 179), (0, u "([CII)[B"), (154, u "()I"), (0, .methodref 10 336), (0, .nameAndType 17 337), (0, u "()B"), (154, .methodref 10 493), (0, .nameAndType 494 142), (0, u "isLatin1"), (10, .methodref 10 506), (0, .nameAndType 507 334), (0, u "length"), (3, .methodref 79 512), (0, .nameAndType 513 37), (0, u "checkFromToIndex"), (0, .methodref 42 515), (0, .nameAndType 516 97), (0, u "codePointCount"), (6, u "checkBoundsBeginEnd"), (0, u "(III)V"), (50, .class_ 576), (0, u "java/lang/CharSequence"), (22, u "CASE_INSENSITIVE_ORDER"), (0, u "Ljava/util/Comparator;"), (32, .methodref 10 634), (0, .nameAndType 635 636), (0, u "indexOf"), (0, u "(II)I"), (0, .methodref 107 638), (0, .nameAndType 635 639), (0, u "([BIII)I"), (0, .methodref 42 638), (124, u "(I)I"), (244, u "([C)V"), (42, .fieldref 1054 1055), (0, .class_ 1056), (0, .nameAndType 1057 1058), (0, u "jdk/internal/util/Preconditions"), (0, u "SIOOBE_FORMATTER"), (0, u "Ljava/util/function/BiFunction;"), (3, .methodref 1054 1063), (0, .nameAndType 513 1064), (0, u "(IIILjava/util/function/BiFunction;)I"), (36, u "serialPersistentFields"), (0, u "[Ljava/io/ObjectStreamField;"), (0, .class_ 1104), (0, u "java/lang/String$CaseInsensitiveComparator"), (1, .class_ 1107), (0, u "java/io/Serializable"), (0, .class_ 1109), (0, u "java/lang/Comparable"), (0, .class_ 1111), (0, u "java/lang/constant/Constable"), (0, .class_ 1113), (0, u "java/lang/constant/ConstantDesc"), (2, u "serialVersionUID"), (0, u "J"), (3, u "REPL"), (0, u "C"), (2, u "LATIN1"), (1, u "UTF16")] 323

def k8m0 : Method := { name := "<init>", desc := "()V", sig := { parameters := [], returnType := none }, accessFlags := 1, code := none }
def k8c1 : Code := { maxStack := 5, maxLocals := 2, code := jdk_42_method_3_code, exceptionTable := #[], attributes := #[] }
def k8m1 : Method := { name := "<init>", desc := "([C)V", sig := { parameters := [(.array .char)], returnType := none }, accessFlags := 1, code := some k8c1 }
def k8c2 : Code := { maxStack := 2, maxLocals := 1, code := jdk_42_method_54_code, exceptionTable := #[], attributes := #[] }
def k8m2 : Method := { name := "length", desc := "()I", sig := { parameters := [], returnType := some .int }, accessFlags := 1, code := some k8c2 }
def k8c3 : Code := { maxStack := 3, maxLocals := 3, code := jdk_42_method_59_code, exceptionTable := #[], attributes := #[] }
def k8m3 : Method := { name := "codePointCount", desc := "(II)I", sig := { parameters := [.int, .int], returnType := some .int }, accessFlags := 1, code := some k8c3 }
def k8c4 : Code := { maxStack := 3, maxLocals := 2, code := jdk_42_method_79_code, exceptionTable := #[], attributes := #[] }
def k8m4 : Method := { name := "indexOf", desc := "(I)I", sig := { parameters := [.int], returnType := some .int }, accessFlags := 1, code := some k8c4 }
def k8c5 : Code := { maxStack := 4, maxLocals := 3, code := jdk_42_method_80_code, exceptionTable := #[], attributes := #[] }
def k8m5 : Method := { name := "indexOf", desc := "(II)I", sig := { parameters := [.int, .int], returnType := some .int }, accessFlags := 1, code := some k8c5 }
def k8c6 : Code := { maxStack := 4, maxLocals := 6, code := jdk_42_method_149_code, exceptionTable := #[], attributes := #[] }
def k8m6 : Method := { name := "<init>", desc := "([CIILjava/lang/Void;)V", sig := { parameters := [(.array .char), .int, .int, (.object "java/lang/Void")], returnType := none }, accessFlags := 2, code := some k8c6 }
def k8c7 : Code := { maxStack := 1, maxLocals := 1, code := jdk_42_method_152_code, exceptionTable := #[], attributes := #[] }
def k8m7 : Method := { name := "coder", desc := "()B", sig := { parameters := [], returnType := some .byte }, accessFlags := 0, code := some k8c7 }
def k8c8 : Code := { maxStack := 1, maxLocals := 1, code := jdk_42_method_154_code, exceptionTable := #[], attributes := #[] }
def k8m8 : Method := { name := "isLatin1", desc := "()Z", sig := { parameters := [], returnType := some .boolean }, accessFlags := 0, code := some k8c8 }
def k8c9 : Code := { maxStack := 4, maxLocals := 3, code := jdk_42_method_158_code, exceptionTable := #[], attributes := #[] }
def k8m9 : Method := { name := "checkBoundsBeginEnd", desc := "(III)V", sig := { parameters := [.int, .int, .int], returnType := none }, accessFlags := 8, code := some k8c9 }
/-- java/lang/String -/
def k8 : Class := { plain "java/lang/String" (some 0) with
  accessFlags := 49
  interfaces := #[3, 4, 5, 6, 7]
  cf := some (fileOf pool8 10 #[.nestMembers #[1103]] #[{ accessFlags := 1, nameIndex := 5, descriptorIndex := 6, attributes := #[] }, { accessFlags := 1, nameIndex := 5, descriptorIndex := 1010, attributes := #[] }, { accessFlags := 1, nameIndex := 507, descriptorIndex := 334, attributes := #[] }, { accessFlags := 1, nameIndex := 516, descriptorIndex := 636, attributes := #[] }, { accessFlags := 1, nameIndex := 635, descriptorIndex := 765, attributes := #[] }, { accessFlags := 1, nameIndex := 635, descriptorIndex := 636, attributes := #[] }, { accessFlags := 2, nameIndex := 5, descriptorIndex := 29, attributes := #[] }, { accessFlags := 0, nameIndex := 17, descriptorIndex := 337, attributes := #[] }, { accessFlags := 0, nameIndex := 494, descriptorIndex := 142, attributes := #[] }, { accessFlags := 8, nameIndex := 523, descriptorIndex := 524, attributes := #[] }] 49 2 #[1106, 1108, 575, 1110, 1112] #[{ accessFlags := 18, nameIndex := 13, descriptorIndex := 14, attributes := #[] }, { accessFlags := 18, nameIndex := 17, descriptorIndex := 18, attributes := #[] }, { accessFlags := 2, nameIndex := 21, descriptorIndex := 22, attributes := #[] }, { accessFlags := 2, nameIndex := 25, descriptorIndex := 26, attributes := #[] }, { accessFlags := 26, nameIndex := 1116, descriptorIndex := 1117, attributes := #[] }, { accessFlags := 24, nameIndex := 40, descriptorIndex := 26, attributes := #[] }, { accessFlags := 26, nameIndex := 1101, descriptorIndex := 1102, attributes := #[] }, { accessFlags := 26, nameIndex := 1121, descriptorIndex := 1122, attributes := #[] }, { accessFlags := 25, nameIndex := 599, descriptorIndex := 600, attributes := #[] }, { accessFlags := 24, nameIndex := 1125, descriptorIndex := 18, attributes := #[] }, { accessFlags := 24, nameIndex := 1127, descriptorIndex := 18, attributes := #[] }])
  fields := #[{ name := "value", type := (.array .byte), accessFlags := 18, slot := 0, constantValue := 0 }, { name := "coder", type := .byte, accessFlags := 18, slot := 1, constantValue := 0 }, { name := "hash", type := .int, accessFlags := 2, slot := 2, constantValue := 0 }, { name := "hashIsZero", type := .boolean, accessFlags := 2, slot := 3, constantValue := 0 }, { name := "serialVersionUID", type := .long, accessFlags := 26, slot := 0, constantValue := 0 }, { name := "COMPACT_STRINGS", type := .boolean, accessFlags := 24, slot := 1, constantValue := 0 }, { name := "serialPersistentFields", type := (.array (.object "java/io/ObjectStreamField")), accessFlags := 26, slot := 2, constantValue := 0 }, { name := "REPL", type := .char, accessFlags := 26, slot := 3, constantValue := 0 }, { name := "CASE_INSENSITIVE_ORDER", type := (.object "java/util/Comparator"), accessFlags := 25, slot := 4, constantValue := 0 }, { name := "LATIN1", type := .byte, accessFlags := 24, slot := 5, constantValue := 0 }, { name := "UTF16", type := .byte, accessFlags := 24, slot := 6, constantValue := 0 }]
  methods := #[k8m0, k8m1, k8m2, k8m3, k8m4, k8m5, k8m6, k8m7, k8m8, k8m9]
  instanceTypes := #[(.array .byte), .byte, .int, .boolean]
  staticTypes := #[.long, .boolean, (.array (.object "java/io/ObjectStreamField")), .char, (.object "java/util/Comparator"), .byte, .byte]
  resolved := Array.replicate 1451 none
  statics := some 0 }

def pool9 : Array CpInfo := pool [(3, .class_ 4), (0, u "java/lang/String"), (1, .class_ 8), (1, u "java/lang/Object"), (0, u "<init>"), (0, u "()V"), (0, .methodref 12 13), (0, .class_ 14), (0, .nameAndType 15 16), (0, u "java/lang/StringUTF16"), (0, u "newBytesLength"), (0, u "(I)I"), (3, .integer 1073741823), (23, .fieldref 12 45), (0, .nameAndType 46 47), (0, u "$assertionsDisabled"), (0, u "Z"), (0, .methodref 12 49), (0, .nameAndType 50 51), (0, u "length"), (0, u "([B)I"), (7, .fieldref 12 60), (0, .nameAndType 61 62), (0, u "HI_BYTE_SHIFT"), (0, u "I"), (0, .fieldref 12 64), (0, .nameAndType 65 62), (0, u "LO_BYTE_SHIFT"), (5, .methodref 12 72), (0, .nameAndType 73 74), (0, u "getChar"), (0, u "([BI)C"), (0, .methodref 76 77), (0, .class_ 78), (0, .nameAndType 79 80), (0, u "java/lang/Character"), (0, u "isHighSurrogate"), (0, u "(C)Z"), (0, .methodref 76 82), (0, .nameAndType 83 80), (0, u "isLowSurrogate"), (7, u "([BIIZ)I"), (4, .methodref 12 97), (0, .nameAndType 98 99), (0, u "checkBoundsBeginEnd"), (0, u "(II[B)V"), (0, .methodref 12 101), (0, .nameAndType 102 91), (0, u "codePointCount"), (4, .methodref 12 108), (0, .nameAndType 109 110), (0, u "newBytesFor"), (0, u "(I)[B"), (0, .methodref 12 112), (0, .nameAndType 113 114), (0, u "putChar"), (0, u "([BII)V"), (0, .methodref 12 116), (0, .nameAndType 117 118), (0, u "compress"), (0, u "([CI[BII)I"), (0, .methodref 12 120), (0, .nameAndType 121 122), (0, u "toBytes"), (0, u "([CII)[B"), (60, .methodref 184 185), (0, .class_ 186), (0, .nameAndType 187 188), (0, u "java/lang/Math"), (0, u "min"), (0, u "(II)I"), (35, .methodref 184 225), (0, .nameAndType 226 188), (0, u "max"), (0, .integer 65536), (0, .methodref 12 229), (0, .nameAndType 230 231), (0, u "indexOfChar"), (0, u "([BIII)I"), (9, .methodref 3 242), (0, .nameAndType 98 243), (0, u "(III)V"), (0, .methodref 12 245), (0, .nameAndType 246 231), (0, u "indexOfCharUnsafe"), (3, u "([BII)I"), (10, u "coderFromArrayLen"), (0, u "([BI)B"), (5, u "indexOf"), (100, .class_ 371), (1, u "java/lang/StringUTF16$LinesSpliterator"), (58, u "MAX_LENGTH"), (196, .class_ 628), (0, u "java/lang/StringUTF16$CodePointsSpliterator"), (0, .class_ 630), (0, u "java/lang/StringUTF16$CharsSpliterator")] 4

def k9m0 : Method := { name := "<init>", desc := "()V", sig := { parameters := [], returnType := none }, accessFlags := 0, code := none }
def k9c1 : Code := { maxStack := 1, maxLocals := 1, code := jdk_52_method_2_code, exceptionTable := #[], attributes := #[] }
def k9m1 : Method := { name := "newBytesFor", desc := "(I)[B", sig := { parameters := [.int], returnType := some (.array .byte) }, accessFlags := 9, code := some k9c1 }
def k9c2 : Code := { maxStack := 4, maxLocals := 1, code := jdk_52_method_3_code, exceptionTable := #[], attributes := #[] }
def k9m2 : Method := { name := "newBytesLength", desc := "(I)I", sig := { parameters := [.int], returnType := some .int }, accessFlags := 9, code := some k9c2 }
def k9c3 : Code := { maxStack := 4, maxLocals := 3, code := jdk_52_method_4_code, exceptionTable := #[], attributes := #[] }
def k9m3 : Method := { name := "putChar", desc := "([BII)V", sig := { parameters := [(.array .byte), .int, .int], returnType := none }, accessFlags := 8, code := some k9c3 }
def k9c4 : Code := { maxStack := 3, maxLocals := 2, code := jdk_52_method_5_code, exceptionTable := #[], attributes := #[] }
def k9m4 : Method := { name := "getChar", desc := "([BI)C", sig := { parameters := [(.array .byte), .int], returnType := some .char }, accessFlags := 8, code := some k9c4 }
def k9c5 : Code := { maxStack := 2, maxLocals := 1, code := jdk_52_method_6_code, exceptionTable := #[], attributes := #[] }
def k9m5 : Method := { name := "length", desc := "([B)I", sig := { parameters := [(.array .byte)], returnType := some .int }, accessFlags := 9, code := some k9c5 }
def k9c6 : Code := { maxStack := 3, maxLocals := 6, code := jdk_52_method_11_code, exceptionTable := #[], attributes := #[] }
def k9m6 : Method := { name := "codePointCount", desc := "([BIIZ)I", sig := { parameters := [(.array .byte), .int, .int, .boolean], returnType := some .int }, accessFlags := 10, code := some k9c6 }
def k9c7 : Code := { maxStack := 4, maxLocals := 3, code := jdk_52_method_12_code, exceptionTable := #[], attributes := #[] }
def k9m7 : Method := { name := "codePointCount", desc := "([BII)I", sig := { parameters := [(.array .byte), .int, .int], returnType := some .int }, accessFlags := 9, code := some k9c7 }
def k9c8 : Code := { maxStack := 4, maxLocals := 5, code := jdk_52_method_14_code, exceptionTable := #[], attributes := #[] }
def k9m8 : Method := { name := "toBytes", desc := "([CII)[B", sig := { parameters := [(.array .char), .int, .int], returnType := some (.array .byte) }, accessFlags := 9, code := some k9c8 }
def k9c9 : Code := { maxStack := 2, maxLocals := 2, code := jdk_52_method_15_code, exceptionTable := #[], attributes := #[] }
def k9m9 : Method := { name := "coderFromArrayLen", desc := "([BI)B", sig := { parameters := [(.array .byte), .int], returnType := some .byte }, accessFlags := 8, code := some k9c9 }
def k9c10 : Code := { maxStack := 5, maxLocals := 6, code := jdk_52_method_16_code, exceptionTable := #[], attributes := #[] }
def k9m10 : Method := { name := "compress", desc := "([CII)[B", sig := { parameters := [(.array .char), .int, .int], returnType := some (.array .byte) }, accessFlags := 9, code := some k9c10 }
def k9c11 : Code := { maxStack := 3, maxLocals := 7, code := jdk_52_method_21_code, exceptionTable := #[], attributes := #[] }
def k9m11 : Method := { name := "compress", desc := "([CI[BII)I", sig := { parameters := [(.array .char), .int, (.array .byte), .int, .int], returnType := some .int }, accessFlags := 9, code := some k9c11 }
def k9c12 : Code := { maxStack := 4, maxLocals := 4, code := jdk_52_method_40_code, exceptionTable := #[], attributes := #[] }
def k9m12 : Method := { name := "indexOf", desc := "([BIII)I", sig := { parameters := [(.array .byte), .int, .int, .int], returnType := some .int }, accessFlags := 9, code := some k9c12 }
def k9c13 : Code := { maxStack := 4, maxLocals := 4, code := jdk_52_method_47_code, exceptionTable := #[], attributes := #[] }
def k9m13 : Method := { name := "indexOfChar", desc := "([BIII)I", sig := { parameters := [(.array .byte), .int, .int, .int], returnType := some .int }, accessFlags := 10, code := some k9c13 }
def k9c14 : Code := { maxStack := 2, maxLocals := 5, code := jdk_52_method_48_code, exceptionTable := #[], attributes := #[] }
def k9m14 : Method := { name := "indexOfCharUnsafe", desc := "([BIII)I", sig := { parameters := [(.array .byte), .int, .int, .int], returnType := some .int }, accessFlags := 10, code := some k9c14 }
def k9c15 : Code := { maxStack := 3, maxLocals := 3, code := jdk_52_method_93_code, exceptionTable := #[], attributes := #[] }
def k9m15 : Method := { name := "checkBoundsBeginEnd", desc := "(II[B)V", sig := { parameters := [.int, .int, (.array .byte)], returnType := none }, accessFlags := 9, code := some k9c15 }
/-- java/lang/StringUTF16 -/
def k9 : Class := { plain "java/lang/StringUTF16" (some 0) with
  accessFlags := 48
  interfaces := #[]
  cf := some (fileOf pool9 12 #[.nestMembers #[627, 629, 369]] #[{ accessFlags := 0, nameIndex := 9, descriptorIndex := 10, attributes := #[] }, { accessFlags := 9, nameIndex := 109, descriptorIndex := 110, attributes := #[] }, { accessFlags := 9, nameIndex := 15, descriptorIndex := 16, attributes := #[] }, { accessFlags := 8, nameIndex := 113, descriptorIndex := 114, attributes := #[] }, { accessFlags := 8, nameIndex := 73, descriptorIndex := 74, attributes := #[] }, { accessFlags := 9, nameIndex := 50, descriptorIndex := 51, attributes := #[] }, { accessFlags := 10, nameIndex := 102, descriptorIndex := 91, attributes := #[] }, { accessFlags := 9, nameIndex := 102, descriptorIndex := 250, attributes := #[] }, { accessFlags := 9, nameIndex := 121, descriptorIndex := 122, attributes := #[] }, { accessFlags := 8, nameIndex := 261, descriptorIndex := 262, attributes := #[] }, { accessFlags := 9, nameIndex := 117, descriptorIndex := 122, attributes := #[] }, { accessFlags := 9, nameIndex := 117, descriptorIndex := 118, attributes := #[] }, { accessFlags := 9, nameIndex := 268, descriptorIndex := 231, attributes := #[] }, { accessFlags := 10, nameIndex := 230, descriptorIndex := 231, attributes := #[] }, { accessFlags := 10, nameIndex := 246, descriptorIndex := 231, attributes := #[] }, { accessFlags := 9, nameIndex := 98, descriptorIndex := 99, attributes := #[] }] 48 6 #[] #[{ accessFlags := 26, nameIndex := 61, descriptorIndex := 62, attributes := #[] }, { accessFlags := 26, nameIndex := 65, descriptorIndex := 62, attributes := #[] }, { accessFlags := 24, nameIndex := 430, descriptorIndex := 62, attributes := #[] }, { accessFlags := 4120, nameIndex := 46, descriptorIndex := 47, attributes := #[] }])
  fields := #[{ name := "HI_BYTE_SHIFT", type := .int, accessFlags := 26, slot := 0, constantValue := 0 }, { name := "LO_BYTE_SHIFT", type := .int, accessFlags := 26, slot := 1, constantValue := 0 }, { name := "MAX_LENGTH", type := .int, accessFlags := 24, slot := 2, constantValue := 0 }, { name := "$assertionsDisabled", type := .boolean, accessFlags := 4120, slot := 3, constantValue := 0 }]
  methods := #[k9m0, k9m1, k9m2, k9m3, k9m4, k9m5, k9m6, k9m7, k9m8, k9m9, k9m10, k9m11, k9m12, k9m13, k9m14, k9m15]
  instanceTypes := #[]
  staticTypes := #[.int, .int, .int, .boolean]
  resolved := Array.replicate 635 none
  statics := some 1 }

def pool10 : Array CpInfo := pool [(2, .class_ 4), (1, u "java/lang/Object"), (0, u "<init>"), (0, u "()V"), (0, .methodref 8 9), (0, .class_ 10), (0, .nameAndType 11 12), (0, u "java/util/Objects"), (0, u "requireNonNull"), (0, u "(Ljava/lang/Object;Ljava/lang/String;)Ljava/lang/Object;"), (0, .methodref 14 15), (0, .class_ 16), (0, .nameAndType 17 18), (0, u "java/lang/String"), (0, u "length"), (0, u "()I"), (0, .methodref 14 20), (0, .nameAndType 21 22), (0, u "codePointCount"), (0, u "(II)I"), (9, .methodref 14 33), (0, .nameAndType 34 35), (0, u "indexOf"), (0, u "(I)I"), (11, .class_ 48), (0, u "com/example/lavoro/lavoro/Names"), (0, u "MAX_JOB_NAME"), (0, u "I"), (2, u "MAX_TRIGGER_NAME"), (1, u "MAX_NODE_NAME"), (3, u "check"), (0, u "(Ljava/lang/String;Ljava/lang/String;I)Ljava/lang/String;")] 20

def k10m0 : Method := { name := "<init>", desc := "()V", sig := { parameters := [], returnType := none }, accessFlags := 2, code := none }
def k10c1 : Code := { maxStack := 6, maxLocals := 4, code := prog_16_method_2_code, exceptionTable := #[], attributes := #[] }
def k10m1 : Method := { name := "check", desc := "(Ljava/lang/String;Ljava/lang/String;I)Ljava/lang/String;", sig := { parameters := [(.object "java/lang/String"), (.object "java/lang/String"), .int], returnType := some (.object "java/lang/String") }, accessFlags := 8, code := some k10c1 }
/-- com/example/lavoro/lavoro/Names -/
def k10 : Class := { plain "com/example/lavoro/lavoro/Names" (some 0) with
  accessFlags := 48
  interfaces := #[]
  cf := some (fileOf pool10 47 #[] #[{ accessFlags := 2, nameIndex := 5, descriptorIndex := 6, attributes := #[] }, { accessFlags := 8, nameIndex := 59, descriptorIndex := 60, attributes := #[] }] 48 2 #[] #[{ accessFlags := 24, nameIndex := 49, descriptorIndex := 50, attributes := #[] }, { accessFlags := 24, nameIndex := 53, descriptorIndex := 50, attributes := #[] }, { accessFlags := 24, nameIndex := 55, descriptorIndex := 50, attributes := #[] }])
  fields := #[{ name := "MAX_JOB_NAME", type := .int, accessFlags := 24, slot := 0, constantValue := 0 }, { name := "MAX_TRIGGER_NAME", type := .int, accessFlags := 24, slot := 1, constantValue := 0 }, { name := "MAX_NODE_NAME", type := .int, accessFlags := 24, slot := 2, constantValue := 0 }]
  methods := #[k10m0, k10m1]
  instanceTypes := #[]
  staticTypes := #[.int, .int, .int]
  resolved := Array.replicate 81 none
  statics := none }

def pool11 : Array CpInfo := pool [(2, .class_ 4), (1, u "java/lang/Object"), (0, u "<init>"), (0, u "()V"), (35, .class_ 44), (1, u "java/util/Objects"), (0, u "requireNonNull"), (48, u "(Ljava/lang/Object;Ljava/lang/String;)Ljava/lang/Object;"), (11, .class_ 108), (1, u "jdk/internal/util/Preconditions"), (2, .methodref 106 112), (0, .nameAndType 113 114), (0, u "checkFromToIndex"), (0, u "(IIILjava/util/function/BiFunction;)I"), (60, u "(III)I")] 8

def k11m0 : Method := { name := "<init>", desc := "()V", sig := { parameters := [], returnType := none }, accessFlags := 2, code := none }
def k11c1 : Code := { maxStack := 3, maxLocals := 2, code := jdk_31_method_11_code, exceptionTable := #[], attributes := #[] }
def k11m1 : Method := { name := "requireNonNull", desc := "(Ljava/lang/Object;Ljava/lang/String;)Ljava/lang/Object;", sig := { parameters := [(.object "java/lang/Object"), (.object "java/lang/String")], returnType := some (.object "java/lang/Object") }, accessFlags := 9, code := some k11c1 }
def k11c2 : Code := { maxStack := 4, maxLocals := 3, code := jdk_31_method_18_code, exceptionTable := #[], attributes := #[] }
def k11m2 : Method := { name := "checkFromToIndex", desc := "(III)I", sig := { parameters := [.int, .int, .int], returnType := some .int }, accessFlags := 9, code := some k11c2 }
/-- java/util/Objects -/
def k11 : Class := { plain "java/util/Objects" (some 0) with
  accessFlags := 49
  interfaces := #[]
  cf := some (fileOf pool11 42 #[] #[{ accessFlags := 2, nameIndex := 5, descriptorIndex := 6, attributes := #[] }, { accessFlags := 9, nameIndex := 45, descriptorIndex := 94, attributes := #[] }, { accessFlags := 9, nameIndex := 113, descriptorIndex := 175, attributes := #[] }] 49 2 #[] #[])
  fields := #[]
  methods := #[k11m0, k11m1, k11m2]
  instanceTypes := #[]
  staticTypes := #[]
  resolved := Array.replicate 184 none
  statics := none }

def pool12 : Array CpInfo := pool [(2, .class_ 4), (1, u "java/lang/Object"), (0, u "<init>"), (0, u "()V"), (17, .class_ 26), (1, u "jdk/internal/util/Preconditions"), (20, u "checkFromToIndex"), (7, .class_ 56), (0, u "jdk/internal/util/Preconditions$4"), (57, .class_ 115), (0, u "jdk/internal/util/Preconditions$1"), (7, u "SIOOBE_FORMATTER"), (0, u "Ljava/util/function/BiFunction;"), (0, .class_ 126), (0, u "jdk/internal/util/Preconditions$2"), (3, u "AIOOBE_FORMATTER"), (0, .class_ 132), (0, u "jdk/internal/util/Preconditions$3"), (3, u "IOOBE_FORMATTER"), (46, u "(IIILjava/util/function/BiFunction;)I")] 10

def k12m0 : Method := { name := "<init>", desc := "()V", sig := { parameters := [], returnType := none }, accessFlags := 1, code := none }
def k12c1 : Code := { maxStack := 4, maxLocals := 4, code := jdk_41_method_12_code, exceptionTable := #[], attributes := #[] }
def k12m1 : Method := { name := "checkFromToIndex", desc := "(IIILjava/util/function/BiFunction;)I", sig := { parameters := [.int, .int, .int, (.object "java/util/function/BiFunction")], returnType := some .int }, accessFlags := 9, code := some k12c1 }
/-- jdk/internal/util/Preconditions -/
def k12 : Class := { plain "jdk/internal/util/Preconditions" (some 0) with
  accessFlags := 33
  interfaces := #[]
  cf := some (fileOf pool12 24 #[.nestMembers #[55, 131, 125, 114]] #[{ accessFlags := 1, nameIndex := 5, descriptorIndex := 6, attributes := #[] }, { accessFlags := 9, nameIndex := 47, descriptorIndex := 183, attributes := #[] }] 33 2 #[] #[{ accessFlags := 25, nameIndex := 123, descriptorIndex := 124, attributes := #[] }, { accessFlags := 25, nameIndex := 130, descriptorIndex := 124, attributes := #[] }, { accessFlags := 25, nameIndex := 136, descriptorIndex := 124, attributes := #[] }])
  fields := #[{ name := "SIOOBE_FORMATTER", type := (.object "java/util/function/BiFunction"), accessFlags := 25, slot := 0, constantValue := 0 }, { name := "AIOOBE_FORMATTER", type := (.object "java/util/function/BiFunction"), accessFlags := 25, slot := 1, constantValue := 0 }, { name := "IOOBE_FORMATTER", type := (.object "java/util/function/BiFunction"), accessFlags := 25, slot := 2, constantValue := 0 }]
  methods := #[k12m0, k12m1]
  instanceTypes := #[]
  staticTypes := #[(.object "java/util/function/BiFunction"), (.object "java/util/function/BiFunction"), (.object "java/util/function/BiFunction")]
  resolved := Array.replicate 194 none
  statics := some 2 }

def pool13 : Array CpInfo := pool [(1, .class_ 2), (0, u "java/lang/Character"), (18, u "value"), (0, u "C"), (19, .class_ 44), (1, u "java/lang/Object"), (3, .class_ 50), (1, u "java/lang/Character$CharacterCache"), (24, .integer 55296), (0, .integer 56320), (0, .integer 57344), (2, u "isHighSurrogate"), (0, u "(C)Z"), (2, u "isLowSurrogate"), (199, u "$assertionsDisabled"), (0, u "Z"), (21, .class_ 309), (1, u "java/lang/Character$UnicodeBlock"), (73, u "TYPE"), (0, u "Ljava/lang/Class;"), (0, .class_ 386), (0, u "java/io/Serializable"), (0, .class_ 388), (0, u "java/lang/Comparable"), (0, .class_ 390), (0, u "java/lang/constant/Constable"), (0, u "MIN_RADIX"), (0, u "I"), (2, u "MAX_RADIX"), (1, u "MIN_VALUE"), (1, u "MAX_VALUE"), (3, u "UNASSIGNED"), (0, u "B"), (0, u "UPPERCASE_LETTER"), (1, u "LOWERCASE_LETTER"), (0, u "TITLECASE_LETTER"), (1, u "MODIFIER_LETTER"), (1, u "OTHER_LETTER"), (1, u "NON_SPACING_MARK"), (1, u "ENCLOSING_MARK"), (1, u "COMBINING_SPACING_MARK"), (1, u "DECIMAL_DIGIT_NUMBER"), (1, u "LETTER_NUMBER"), (1, u "OTHER_NUMBER"), (1, u "SPACE_SEPARATOR"), (1, u "LINE_SEPARATOR"), (1, u "PARAGRAPH_SEPARATOR"), (1, u "CONTROL"), (1, u "FORMAT"), (1, u "PRIVATE_USE"), (1, u "SURROGATE"), (1, u "DASH_PUNCTUATION"), (1, u "START_PUNCTUATION"), (1, u "END_PUNCTUATION"), (1, u "CONNECTOR_PUNCTUATION"), (1, u "OTHER_PUNCTUATION"), (1, u "MATH_SYMBOL"), (1, u "CURRENCY_SYMBOL"), (1, u "MODIFIER_SYMBOL"), (1, u "OTHER_SYMBOL"), (1, u "INITIAL_QUOTE_PUNCTUATION"), (1, u "FINAL_QUOTE_PUNCTUATION"), (1, u "ERROR"), (1, u "DIRECTIONALITY_UNDEFINED"), (0, u "DIRECTIONALITY_LEFT_TO_RIGHT"), (0, u "DIRECTIONALITY_RIGHT_TO_LEFT"), (0, u "DIRECTIONALITY_RIGHT_TO_LEFT_ARABIC"), (0, u "DIRECTIONALITY_EUROPEAN_NUMBER"), (0, u "DIRECTIONALITY_EUROPEAN_NUMBER_SEPARATOR"), (0, u "DIRECTIONALITY_EUROPEAN_NUMBER_TERMINATOR"), (0, u "DIRECTIONALITY_ARABIC_NUMBER"), (0, u "DIRECTIONALITY_COMMON_NUMBER_SEPARATOR"), (0, u "DIRECTIONALITY_NONSPACING_MARK"), (0, u "DIRECTIONALITY_BOUNDARY_NEUTRAL"), (0, u "DIRECTIONALITY_PARAGRAPH_SEPARATOR"), (0, u "DIRECTIONALITY_SEGMENT_SEPARATOR"), (0, u "DIRECTIONALITY_WHITESPACE"), (0, u "DIRECTIONALITY_OTHER_NEUTRALS"), (0, u "DIRECTIONALITY_LEFT_TO_RIGHT_EMBEDDING"), (0, u "DIRECTIONALITY_LEFT_TO_RIGHT_OVERRIDE"), (0, u "DIRECTIONALITY_RIGHT_TO_LEFT_EMBEDDING"), (0, u "DIRECTIONALITY_RIGHT_TO_LEFT_OVERRIDE"), (1, u "DIRECTIONALITY_POP_DIRECTIONAL_FORMAT"), (0, u "DIRECTIONALITY_LEFT_TO_RIGHT_ISOLATE"), (0, u "DIRECTIONALITY_RIGHT_TO_LEFT_ISOLATE"), (0, u "DIRECTIONALITY_FIRST_STRONG_ISOLATE"), (0, u "DIRECTIONALITY_POP_DIRECTIONAL_ISOLATE"), (0, u "MIN_HIGH_SURROGATE"), (0, u "MAX_HIGH_SURROGATE"), (1, u "MIN_LOW_SURROGATE"), (0, u "MAX_LOW_SURROGATE"), (1, u "MIN_SURROGATE"), (0, u "MAX_SURROGATE"), (0, u "MIN_SUPPLEMENTARY_CODE_POINT"), (0, u "MIN_CODE_POINT"), (0, u "MAX_CODE_POINT"), (1, u "serialVersionUID"), (0, u "J"), (2, u "SIZE"), (0, u "BYTES"), (88, .class_ 596), (0, u "java/lang/Character$UnicodeScript"), (0, .class_ 598), (0, u "java/lang/Character$Subset")] 5

def k13c0 : Code := { maxStack := 2, maxLocals := 1, code := jdk_89_method_14_code, exceptionTable := #[], attributes := #[] }
def k13m0 : Method := { name := "isHighSurrogate", desc := "(C)Z", sig := { parameters := [.char], returnType := some .boolean }, accessFlags := 9, code := some k13c0 }
def k13c1 : Code := { maxStack := 2, maxLocals := 1, code := jdk_89_method_15_code, exceptionTable := #[], attributes := #[] }
def k13m1 : Method := { name := "isLowSurrogate", desc := "(C)Z", sig := { parameters := [.char], returnType := some .boolean }, accessFlags := 9, code := some k13c1 }
/-- java/lang/Character -/
def k13 : Class := { plain "java/lang/Character" (some 0) with
  accessFlags := 49
  interfaces := #[3, 4, 6]
  cf := some (fileOf pool13 1 #[.nestMembers #[48, 595, 307, 597]] #[{ accessFlags := 9, nameIndex := 80, descriptorIndex := 81, attributes := #[] }, { accessFlags := 9, nameIndex := 84, descriptorIndex := 81, attributes := #[] }] 49 42 #[385, 387, 389] #[{ accessFlags := 25, nameIndex := 391, descriptorIndex := 392, attributes := #[] }, { accessFlags := 25, nameIndex := 395, descriptorIndex := 392, attributes := #[] }, { accessFlags := 25, nameIndex := 397, descriptorIndex := 22, attributes := #[] }, { accessFlags := 25, nameIndex := 399, descriptorIndex := 22, attributes := #[] }, { accessFlags := 25, nameIndex := 383, descriptorIndex := 384, attributes := #[] }, { accessFlags := 25, nameIndex := 403, descriptorIndex := 404, attributes := #[] }, { accessFlags := 25, nameIndex := 405, descriptorIndex := 404, attributes := #[] }, { accessFlags := 25, nameIndex := 407, descriptorIndex := 404, attributes := #[] }, { accessFlags := 25, nameIndex := 408, descriptorIndex := 404, attributes := #[] }, { accessFlags := 25, nameIndex := 410, descriptorIndex := 404, attributes := #[] }, { accessFlags := 25, nameIndex := 412, descriptorIndex := 404, attributes := #[] }, { accessFlags := 25, nameIndex := 414, descriptorIndex := 404, attributes := #[] }, { accessFlags := 25, nameIndex := 416, descriptorIndex := 404, attributes := #[] }, { accessFlags := 25, nameIndex := 418, descriptorIndex := 404, attributes := #[] }, { accessFlags := 25, nameIndex := 420, descriptorIndex := 404, attributes := #[] }, { accessFlags := 25, nameIndex := 422, descriptorIndex := 404, attributes := #[] }, { accessFlags := 25, nameIndex := 424, descriptorIndex := 404, attributes := #[] }, { accessFlags := 25, nameIndex := 426, descriptorIndex := 404, attributes := #[] }, { accessFlags := 25, nameIndex := 428, descriptorIndex := 404, attributes := #[] }, { accessFlags := 25, nameIndex := 430, descriptorIndex := 404, attributes := #[] }, { accessFlags := 25, nameIndex := 432, descriptorIndex := 404, attributes := #[] }, { accessFlags := 25, nameIndex := 434, descriptorIndex := 404, attributes := #[] }, { accessFlags := 25, nameIndex := 436, descriptorIndex := 404, attributes := #[] }, { accessFlags := 25, nameIndex := 438, descriptorIndex := 404, attributes := #[] }, { accessFlags := 25, nameIndex := 440, descriptorIndex := 404, attributes := #[] }, { accessFlags := 25, nameIndex := 442, descriptorIndex := 404, attributes := #[] }, { accessFlags := 25, nameIndex := 444, descriptorIndex := 404, attributes := #[] }, { accessFlags := 25, nameIndex := 446, descriptorIndex := 404, attributes := #[] }, { accessFlags := 25, nameIndex := 448, descriptorIndex := 404, attributes := #[] }, { accessFlags := 25, nameIndex := 450, descriptorIndex := 404, attributes := #[] }, { accessFlags := 25, nameIndex := 452, descriptorIndex := 404, attributes := #[] }, { accessFlags := 25, nameIndex := 454, descriptorIndex := 404, attributes := #[] }, { accessFlags := 25, nameIndex := 456, descriptorIndex := 404, attributes := #[] }, { accessFlags := 25, nameIndex := 458, descriptorIndex := 404, attributes := #[] }, { accessFlags := 25, nameIndex := 460, descriptorIndex := 404, attributes := #[] }, { accessFlags := 24, nameIndex := 462, descriptorIndex := 392, attributes := #[] }, { accessFlags := 25, nameIndex := 464, descriptorIndex := 404, attributes := #[] }, { accessFlags := 25, nameIndex := 465, descriptorIndex := 404, attributes := #[] }, { accessFlags := 25, nameIndex := 466, descriptorIndex := 404, attributes := #[] }, { accessFlags := 25, nameIndex := 467, descriptorIndex := 404, attributes := #[] }, { accessFlags := 25, nameIndex := 468, descriptorIndex := 404, attributes := #[] }, { accessFlags := 25, nameIndex := 469, descriptorIndex := 404, attributes := #[] }, { accessFlags := 25, nameIndex := 470, descriptorIndex := 404, attributes := #[] }, { accessFlags := 25, nameIndex := 471, descriptorIndex := 404, attributes := #[] }, { accessFlags := 25, nameIndex := 472, descriptorIndex := 404, attributes := #[] }, { accessFlags := 25, nameIndex := 473, descriptorIndex := 404, attributes := #[] }, { accessFlags := 25, nameIndex := 474, descriptorIndex := 404, attributes := #[] }, { accessFlags := 25, nameIndex := 475, descriptorIndex := 404, attributes := #[] }, { accessFlags := 25, nameIndex := 476, descriptorIndex := 404, attributes := #[] }, { accessFlags := 25, nameIndex := 477, descriptorIndex := 404, attributes := #[] }, { accessFlags := 25, nameIndex := 478, descriptorIndex := 404, attributes := #[] }, { accessFlags := 25, nameIndex := 479, descriptorIndex := 404, attributes := #[] }, { accessFlags := 25, nameIndex := 480, descriptorIndex := 404, attributes := #[] }, { accessFlags := 25, nameIndex := 481, descriptorIndex := 404, attributes := #[] }, { accessFlags := 25, nameIndex := 482, descriptorIndex := 404, attributes := #[] }, { accessFlags := 25, nameIndex := 484, descriptorIndex := 404, attributes := #[] }, { accessFlags := 25, nameIndex := 485, descriptorIndex := 404, attributes := #[] }, { accessFlags := 25, nameIndex := 486, descriptorIndex := 404, attributes := #[] }, { accessFlags := 25, nameIndex := 487, descriptorIndex := 404, attributes := #[] }, { accessFlags := 25, nameIndex := 488, descriptorIndex := 404, attributes := #[] }, { accessFlags := 25, nameIndex := 489, descriptorIndex := 22, attributes := #[] }, { accessFlags := 25, nameIndex := 490, descriptorIndex := 22, attributes := #[] }, { accessFlags := 25, nameIndex := 492, descriptorIndex := 22, attributes := #[] }, { accessFlags := 25, nameIndex := 493, descriptorIndex := 22, attributes := #[] }, { accessFlags := 25, nameIndex := 495, descriptorIndex := 22, attributes := #[] }, { accessFlags := 25, nameIndex := 496, descriptorIndex := 22, attributes := #[] }, { accessFlags := 25, nameIndex := 497, descriptorIndex := 392, attributes := #[] }, { accessFlags := 25, nameIndex := 498, descriptorIndex := 392, attributes := #[] }, { accessFlags := 25, nameIndex := 499, descriptorIndex := 392, attributes := #[] }, { accessFlags := 18, nameIndex := 21, descriptorIndex := 22, attributes := #[] }, { accessFlags := 26, nameIndex := 501, descriptorIndex := 502, attributes := #[] }, { accessFlags := 25, nameIndex := 505, descriptorIndex := 392, attributes := #[] }, { accessFlags := 25, nameIndex := 506, descriptorIndex := 392, attributes := #[] }, { accessFlags := 4120, nameIndex := 284, descriptorIndex := 285, attributes := #[] }])
  fields := #[{ name := "MIN_RADIX", type := .int, accessFlags := 25, slot := 0, constantValue := 0 }, { name := "MAX_RADIX", type := .int, accessFlags := 25, slot := 1, constantValue := 0 }, { name := "MIN_VALUE", type := .char, accessFlags := 25, slot := 2, constantValue := 0 }, { name := "MAX_VALUE", type := .char, accessFlags := 25, slot := 3, constantValue := 0 }, { name := "TYPE", type := (.object "java/lang/Class"), accessFlags := 25, slot := 4, constantValue := 0 }, { name := "UNASSIGNED", type := .byte, accessFlags := 25, slot := 5, constantValue := 0 }, { name := "UPPERCASE_LETTER", type := .byte, accessFlags := 25, slot := 6, constantValue := 0 }, { name := "LOWERCASE_LETTER", type := .byte, accessFlags := 25, slot := 7, constantValue := 0 }, { name := "TITLECASE_LETTER", type := .byte, accessFlags := 25, slot := 8, constantValue := 0 }, { name := "MODIFIER_LETTER", type := .byte, accessFlags := 25, slot := 9, constantValue := 0 }, { name := "OTHER_LETTER", type := .byte, accessFlags := 25, slot := 10, constantValue := 0 }, { name := "NON_SPACING_MARK", type := .byte, accessFlags := 25, slot := 11, constantValue := 0 }, { name := "ENCLOSING_MARK", type := .byte, accessFlags := 25, slot := 12, constantValue := 0 }, { name := "COMBINING_SPACING_MARK", type := .byte, accessFlags := 25, slot := 13, constantValue := 0 }, { name := "DECIMAL_DIGIT_NUMBER", type := .byte, accessFlags := 25, slot := 14, constantValue := 0 }, { name := "LETTER_NUMBER", type := .byte, accessFlags := 25, slot := 15, constantValue := 0 }, { name := "OTHER_NUMBER", type := .byte, accessFlags := 25, slot := 16, constantValue := 0 }, { name := "SPACE_SEPARATOR", type := .byte, accessFlags := 25, slot := 17, constantValue := 0 }, { name := "LINE_SEPARATOR", type := .byte, accessFlags := 25, slot := 18, constantValue := 0 }, { name := "PARAGRAPH_SEPARATOR", type := .byte, accessFlags := 25, slot := 19, constantValue := 0 }, { name := "CONTROL", type := .byte, accessFlags := 25, slot := 20, constantValue := 0 }, { name := "FORMAT", type := .byte, accessFlags := 25, slot := 21, constantValue := 0 }, { name := "PRIVATE_USE", type := .byte, accessFlags := 25, slot := 22, constantValue := 0 }, { name := "SURROGATE", type := .byte, accessFlags := 25, slot := 23, constantValue := 0 }, { name := "DASH_PUNCTUATION", type := .byte, accessFlags := 25, slot := 24, constantValue := 0 }, { name := "START_PUNCTUATION", type := .byte, accessFlags := 25, slot := 25, constantValue := 0 }, { name := "END_PUNCTUATION", type := .byte, accessFlags := 25, slot := 26, constantValue := 0 }, { name := "CONNECTOR_PUNCTUATION", type := .byte, accessFlags := 25, slot := 27, constantValue := 0 }, { name := "OTHER_PUNCTUATION", type := .byte, accessFlags := 25, slot := 28, constantValue := 0 }, { name := "MATH_SYMBOL", type := .byte, accessFlags := 25, slot := 29, constantValue := 0 }, { name := "CURRENCY_SYMBOL", type := .byte, accessFlags := 25, slot := 30, constantValue := 0 }, { name := "MODIFIER_SYMBOL", type := .byte, accessFlags := 25, slot := 31, constantValue := 0 }, { name := "OTHER_SYMBOL", type := .byte, accessFlags := 25, slot := 32, constantValue := 0 }, { name := "INITIAL_QUOTE_PUNCTUATION", type := .byte, accessFlags := 25, slot := 33, constantValue := 0 }, { name := "FINAL_QUOTE_PUNCTUATION", type := .byte, accessFlags := 25, slot := 34, constantValue := 0 }, { name := "ERROR", type := .int, accessFlags := 24, slot := 35, constantValue := 0 }, { name := "DIRECTIONALITY_UNDEFINED", type := .byte, accessFlags := 25, slot := 36, constantValue := 0 }, { name := "DIRECTIONALITY_LEFT_TO_RIGHT", type := .byte, accessFlags := 25, slot := 37, constantValue := 0 }, { name := "DIRECTIONALITY_RIGHT_TO_LEFT", type := .byte, accessFlags := 25, slot := 38, constantValue := 0 }, { name := "DIRECTIONALITY_RIGHT_TO_LEFT_ARABIC", type := .byte, accessFlags := 25, slot := 39, constantValue := 0 }, { name := "DIRECTIONALITY_EUROPEAN_NUMBER", type := .byte, accessFlags := 25, slot := 40, constantValue := 0 }, { name := "DIRECTIONALITY_EUROPEAN_NUMBER_SEPARATOR", type := .byte, accessFlags := 25, slot := 41, constantValue := 0 }, { name := "DIRECTIONALITY_EUROPEAN_NUMBER_TERMINATOR", type := .byte, accessFlags := 25, slot := 42, constantValue := 0 }, { name := "DIRECTIONALITY_ARABIC_NUMBER", type := .byte, accessFlags := 25, slot := 43, constantValue := 0 }, { name := "DIRECTIONALITY_COMMON_NUMBER_SEPARATOR", type := .byte, accessFlags := 25, slot := 44, constantValue := 0 }, { name := "DIRECTIONALITY_NONSPACING_MARK", type := .byte, accessFlags := 25, slot := 45, constantValue := 0 }, { name := "DIRECTIONALITY_BOUNDARY_NEUTRAL", type := .byte, accessFlags := 25, slot := 46, constantValue := 0 }, { name := "DIRECTIONALITY_PARAGRAPH_SEPARATOR", type := .byte, accessFlags := 25, slot := 47, constantValue := 0 }, { name := "DIRECTIONALITY_SEGMENT_SEPARATOR", type := .byte, accessFlags := 25, slot := 48, constantValue := 0 }, { name := "DIRECTIONALITY_WHITESPACE", type := .byte, accessFlags := 25, slot := 49, constantValue := 0 }, { name := "DIRECTIONALITY_OTHER_NEUTRALS", type := .byte, accessFlags := 25, slot := 50, constantValue := 0 }, { name := "DIRECTIONALITY_LEFT_TO_RIGHT_EMBEDDING", type := .byte, accessFlags := 25, slot := 51, constantValue := 0 }, { name := "DIRECTIONALITY_LEFT_TO_RIGHT_OVERRIDE", type := .byte, accessFlags := 25, slot := 52, constantValue := 0 }, { name := "DIRECTIONALITY_RIGHT_TO_LEFT_EMBEDDING", type := .byte, accessFlags := 25, slot := 53, constantValue := 0 }, { name := "DIRECTIONALITY_RIGHT_TO_LEFT_OVERRIDE", type := .byte, accessFlags := 25, slot := 54, constantValue := 0 }, { name := "DIRECTIONALITY_POP_DIRECTIONAL_FORMAT", type := .byte, accessFlags := 25, slot := 55, constantValue := 0 }, { name := "DIRECTIONALITY_LEFT_TO_RIGHT_ISOLATE", type := .byte, accessFlags := 25, slot := 56, constantValue := 0 }, { name := "DIRECTIONALITY_RIGHT_TO_LEFT_ISOLATE", type := .byte, accessFlags := 25, slot := 57, constantValue := 0 }, { name := "DIRECTIONALITY_FIRST_STRONG_ISOLATE", type := .byte, accessFlags := 25, slot := 58, constantValue := 0 }, { name := "DIRECTIONALITY_POP_DIRECTIONAL_ISOLATE", type := .byte, accessFlags := 25, slot := 59, constantValue := 0 }, { name := "MIN_HIGH_SURROGATE", type := .char, accessFlags := 25, slot := 60, constantValue := 0 }, { name := "MAX_HIGH_SURROGATE", type := .char, accessFlags := 25, slot := 61, constantValue := 0 }, { name := "MIN_LOW_SURROGATE", type := .char, accessFlags := 25, slot := 62, constantValue := 0 }, { name := "MAX_LOW_SURROGATE", type := .char, accessFlags := 25, slot := 63, constantValue := 0 }, { name := "MIN_SURROGATE", type := .char, accessFlags := 25, slot := 64, constantValue := 0 }, { name := "MAX_SURROGATE", type := .char, accessFlags := 25, slot := 65, constantValue := 0 }, { name := "MIN_SUPPLEMENTARY_CODE_POINT", type := .int, accessFlags := 25, slot := 66, constantValue := 0 }, { name := "MIN_CODE_POINT", type := .int, accessFlags := 25, slot := 67, constantValue := 0 }, { name := "MAX_CODE_POINT", type := .int, accessFlags := 25, slot := 68, constantValue := 0 }, { name := "value", type := .char, accessFlags := 18, slot := 0, constantValue := 0 }, { name := "serialVersionUID", type := .long, accessFlags := 26, slot := 69, constantValue := 0 }, { name := "SIZE", type := .int, accessFlags := 25, slot := 70, constantValue := 0 }, { name := "BYTES", type := .int, accessFlags := 25, slot := 71, constantValue := 0 }, { name := "$assertionsDisabled", type := .boolean, accessFlags := 4120, slot := 72, constantValue := 0 }]
  methods := #[k13m0, k13m1]
  instanceTypes := #[.char]
  staticTypes := #[.int, .int, .char, .char, (.object "java/lang/Class"), .byte, .byte, .byte, .byte, .byte, .byte, .byte, .byte, .byte, .byte, .byte, .byte, .byte, .byte, .byte, .byte, .byte, .byte, .byte, .byte, .byte, .byte, .byte, .byte, .byte, .byte, .byte, .byte, .byte, .byte, .int, .byte, .byte, .byte, .byte, .byte, .byte, .byte, .byte, .byte, .byte, .byte, .byte, .byte, .byte, .byte, .byte, .byte, .byte, .byte, .byte, .byte, .byte, .byte, .byte, .char, .char, .char, .char, .char, .char, .int, .int, .int, .long, .int, .int, .boolean]
  resolved := Array.replicate 604 none
  statics := none }

def pool14 : Array CpInfo := pool [(4, .class_ 6), (1, u "java/lang/Object"), (0, u "<init>"), (0, u "()V"), (5, .class_ 16), (1, u "java/lang/StringLatin1"), (21, .methodref 39 40), (0, .class_ 41), (0, .nameAndType 42 43), (0, u "java/lang/Math"), (0, u "min"), (0, u "(II)I"), (44, .methodref 14 89), (0, .nameAndType 90 91), (0, u "canEncode"), (0, u "(I)Z"), (0, .methodref 39 93), (0, .nameAndType 94 43), (0, u "max"), (0, .methodref 14 96), (0, .nameAndType 97 98), (0, u "indexOfChar"), (0, u "([BIII)I"), (2, u "indexOf"), (19, u "$assertionsDisabled"), (0, u "Z"), (98, .class_ 223), (1, u "java/lang/StringLatin1$LinesSpliterator"), (166, .class_ 391), (0, u "java/lang/StringLatin1$CharsSpliterator")] 3

def k14m0 : Method := { name := "<init>", desc := "()V", sig := { parameters := [], returnType := none }, accessFlags := 0, code := none }
def k14c1 : Code := { maxStack := 2, maxLocals := 1, code := jdk_43_method_4_code, exceptionTable := #[], attributes := #[] }
def k14m1 : Method := { name := "canEncode", desc := "(I)Z", sig := { parameters := [.int], returnType := some .boolean }, accessFlags := 9, code := some k14c1 }
def k14c2 : Code := { maxStack := 4, maxLocals := 4, code := jdk_43_method_22_code, exceptionTable := #[], attributes := #[] }
def k14m2 : Method := { name := "indexOf", desc := "([BIII)I", sig := { parameters := [(.array .byte), .int, .int, .int], returnType := some .int }, accessFlags := 9, code := some k14c2 }
def k14c3 : Code := { maxStack := 2, maxLocals := 6, code := jdk_43_method_23_code, exceptionTable := #[], attributes := #[] }
def k14m3 : Method := { name := "indexOfChar", desc := "([BIII)I", sig := { parameters := [(.array .byte), .int, .int, .int], returnType := some .int }, accessFlags := 10, code := some k14c3 }
/-- java/lang/StringLatin1 -/
def k14 : Class := { plain "java/lang/StringLatin1" (some 0) with
  accessFlags := 48
  interfaces := #[]
  cf := some (fileOf pool14 14 #[.nestMembers #[390, 221]] #[{ accessFlags := 0, nameIndex := 7, descriptorIndex := 8, attributes := #[] }, { accessFlags := 9, nameIndex := 90, descriptorIndex := 91, attributes := #[] }, { accessFlags := 9, nameIndex := 101, descriptorIndex := 98, attributes := #[] }, { accessFlags := 10, nameIndex := 97, descriptorIndex := 98, attributes := #[] }] 48 4 #[] #[{ accessFlags := 4120, nameIndex := 121, descriptorIndex := 122, attributes := #[] }])
  fields := #[{ name := "$assertionsDisabled", type := .boolean, accessFlags := 4120, slot := 0, constantValue := 0 }]
  methods := #[k14m0, k14m1, k14m2, k14m3]
  instanceTypes := #[]
  staticTypes := #[.boolean]
  resolved := Array.replicate 395 none
  statics := none }

def pool15 : Array CpInfo := pool [(9, u "<init>"), (6, .class_ 18), (1, u "java/lang/Object"), (0, u "()V"), (1, .class_ 23), (1, u "jdk/internal/util/ArraysSupport"), (0, u "LOG2_ARRAY_LONG_INDEX_SCALE"), (0, u "I"), (2, u "U"), (0, u "Ljdk/internal/misc/Unsafe;"), (8, u "BIG_ENDIAN"), (0, u "Z"), (8, u "LOG2_BYTE_BIT_SIZE"), (4, u "LOG2_ARRAY_INT_INDEX_SCALE"), (54, u "JLA"), (0, u "Ljdk/internal/access/JavaLangAccess;"), (11, u "LOG2_ARRAY_BOOLEAN_INDEX_SCALE"), (9, u "LOG2_ARRAY_BYTE_INDEX_SCALE"), (5, u "LOG2_ARRAY_CHAR_INDEX_SCALE"), (5, u "LOG2_ARRAY_SHORT_INDEX_SCALE"), (18, u "LOG2_ARRAY_FLOAT_INDEX_SCALE"), (24, u "LOG2_ARRAY_DOUBLE_INDEX_SCALE"), (89, u "T_BOOLEAN"), (2, u "T_CHAR"), (1, u "T_FLOAT"), (1, u "T_DOUBLE"), (1, u "T_BYTE"), (1, u "T_SHORT"), (1, u "T_INT"), (1, u "T_LONG"), (1, u "SOFT_MAX_ARRAY_LENGTH")] 83

def k15m0 : Method := { name := "<init>", desc := "()V", sig := { parameters := [], returnType := none }, accessFlags := 2, code := none }
/-- jdk/internal/util/ArraysSupport -/
def k15 : Class := { plain "jdk/internal/util/ArraysSupport" (some 0) with
  accessFlags := 33
  interfaces := #[]
  cf := some (fileOf pool15 21 #[] #[{ accessFlags := 2, nameIndex := 9, descriptorIndex := 19, attributes := #[] }] 33 16 #[] #[{ accessFlags := 24, nameIndex := 28, descriptorIndex := 29, attributes := #[] }, { accessFlags := 26, nameIndex := 38, descriptorIndex := 39, attributes := #[] }, { accessFlags := 25, nameIndex := 121, descriptorIndex := 25, attributes := #[] }, { accessFlags := 25, nameIndex := 131, descriptorIndex := 25, attributes := #[] }, { accessFlags := 25, nameIndex := 137, descriptorIndex := 25, attributes := #[] }, { accessFlags := 25, nameIndex := 143, descriptorIndex := 25, attributes := #[] }, { accessFlags := 25, nameIndex := 53, descriptorIndex := 25, attributes := #[] }, { accessFlags := 25, nameIndex := 24, descriptorIndex := 25, attributes := #[] }, { accessFlags := 25, nameIndex := 162, descriptorIndex := 25, attributes := #[] }, { accessFlags := 25, nameIndex := 187, descriptorIndex := 25, attributes := #[] }, { accessFlags := 26, nameIndex := 48, descriptorIndex := 25, attributes := #[] }, { accessFlags := 25, nameIndex := 277, descriptorIndex := 25, attributes := #[] }, { accessFlags := 25, nameIndex := 280, descriptorIndex := 25, attributes := #[] }, { accessFlags := 25, nameIndex := 282, descriptorIndex := 25, attributes := #[] }, { accessFlags := 25, nameIndex := 284, descriptorIndex := 25, attributes := #[] }, { accessFlags := 25, nameIndex := 286, descriptorIndex := 25, attributes := #[] }, { accessFlags := 25, nameIndex := 288, descriptorIndex := 25, attributes := #[] }, { accessFlags := 25, nameIndex := 290, descriptorIndex := 25, attributes := #[] }, { accessFlags := 25, nameIndex := 292, descriptorIndex := 25, attributes := #[] }, { accessFlags := 26, nameIndex := 108, descriptorIndex := 109, attributes := #[] }, { accessFlags := 25, nameIndex := 294, descriptorIndex := 25, attributes := #[] }])
  fields := #[{ name := "U", type := (.object "jdk/internal/misc/Unsafe"), accessFlags := 24, slot := 0, constantValue := 0 }, { name := "BIG_ENDIAN", type := .boolean, accessFlags := 26, slot := 1, constantValue := 0 }, { name := "LOG2_ARRAY_BOOLEAN_INDEX_SCALE", type := .int, accessFlags := 25, slot := 2, constantValue := 0 }, { name := "LOG2_ARRAY_BYTE_INDEX_SCALE", type := .int, accessFlags := 25, slot := 3, constantValue := 0 }, { name := "LOG2_ARRAY_CHAR_INDEX_SCALE", type := .int, accessFlags := 25, slot := 4, constantValue := 0 }, { name := "LOG2_ARRAY_SHORT_INDEX_SCALE", type := .int, accessFlags := 25, slot := 5, constantValue := 0 }, { name := "LOG2_ARRAY_INT_INDEX_SCALE", type := .int, accessFlags := 25, slot := 6, constantValue := 0 }, { name := "LOG2_ARRAY_LONG_INDEX_SCALE", type := .int, accessFlags := 25, slot := 7, constantValue := 0 }, { name := "LOG2_ARRAY_FLOAT_INDEX_SCALE", type := .int, accessFlags := 25, slot := 8, constantValue := 0 }, { name := "LOG2_ARRAY_DOUBLE_INDEX_SCALE", type := .int, accessFlags := 25, slot := 9, constantValue := 0 }, { name := "LOG2_BYTE_BIT_SIZE", type := .int, accessFlags := 26, slot := 10, constantValue := 0 }, { name := "T_BOOLEAN", type := .int, accessFlags := 25, slot := 11, constantValue := 0 }, { name := "T_CHAR", type := .int, accessFlags := 25, slot := 12, constantValue := 0 }, { name := "T_FLOAT", type := .int, accessFlags := 25, slot := 13, constantValue := 0 }, { name := "T_DOUBLE", type := .int, accessFlags := 25, slot := 14, constantValue := 0 }, { name := "T_BYTE", type := .int, accessFlags := 25, slot := 15, constantValue := 0 }, { name := "T_SHORT", type := .int, accessFlags := 25, slot := 16, constantValue := 0 }, { name := "T_INT", type := .int, accessFlags := 25, slot := 17, constantValue := 0 }, { name := "T_LONG", type := .int, accessFlags := 25, slot := 18, constantValue := 0 }, { name := "JLA", type := (.object "jdk/internal/access/JavaLangAccess"), accessFlags := 26, slot := 19, constantValue := 0 }, { name := "SOFT_MAX_ARRAY_LENGTH", type := .int, accessFlags := 25, slot := 20, constantValue := 0 }]
  methods := #[k15m0]
  instanceTypes := #[]
  staticTypes := #[(.object "jdk/internal/misc/Unsafe"), .boolean, .int, .int, .int, .int, .int, .int, .int, .int, .int, .int, .int, .int, .int, .int, .int, .int, .int, (.object "jdk/internal/access/JavaLangAccess"), .int]
  resolved := Array.replicate 378 none
  statics := none }

def pool16 : Array CpInfo := pool [(1, u "java/lang/Cloneable"), (0, .class_ 1), (0, u "java/lang/Object"), (0, .class_ 3)] 3

/-- java/lang/Cloneable -/
def k16 : Class := { plain "java/lang/Cloneable" (some 0) with
  accessFlags := 1537
  interfaces := #[]
  cf := some (fileOf pool16 2 #[] #[] 1537 4 #[] #[])
  fields := #[]
  methods := #[]
  instanceTypes := #[]
  staticTypes := #[]
  resolved := Array.replicate 8 none
  statics := none }

/-- the primitive byte -/
def k17 : Class := { plain "byte" none with kind := .primitive 'B', accessFlags := 0x411 }
/-- [B -/
def k18 : Class := { plain "[B" (some 0) with kind := .array 17 .byte, interfaces := #[16, 3], accessFlags := 1041 }

/-- the primitive char -/
def k19 : Class := { plain "char" none with kind := .primitive 'C', accessFlags := 0x411 }
/-- [C -/
def k20 : Class := { plain "[C" (some 0) with kind := .array 19 .char, interfaces := #[16, 3], accessFlags := 1041 }

/-- the primitive int -/
def k21 : Class := { plain "int" none with kind := .primitive 'I', accessFlags := 0x411 }
/-- [I -/
def k22 : Class := { plain "[I" (some 0) with kind := .array 21 .int, interfaces := #[16, 3], accessFlags := 1041 }

def heap : Heap := #[{ cls := 8, slots := #[.long 0, .int 1, .null, .int 0, .null, .int 0, .int 0], vm := .statics 8 },
  { cls := 9, slots := #[.int 0, .int 8, .int 0, .int 1], vm := .statics 9 },
  { cls := 12, slots := #[.null, .null, .null], vm := .statics 12 }]
def classes : Array Class := #[k0, k1, k2, k3, k4, k5, k6, k7, k8, k9, k10, k11, k12, k13, k14, k15, k16, k17, k18, k19, k20, k21, k22]
def interned : List (Array UInt16 × Addr) := []
def slotsUsed : Nat := 14
def theMethod : MethodId := ⟨1, 5⟩
def args0 : Array Value := #[.int 5, .int 5, .int 5, .int 5, .int 5, .int 5]
def aboutOver (below : List Frame) : State where
  vm := { classes := classes, interned := interned.toArray }
  heap := heap
  slotsUsed := slotsUsed
  threads := #[{ frames := .invoking theMethod args0 :: below }]
def below0 : List Frame := [.native { method := ⟨0, 0⟩, args := #[] }]
def about1 : State := aboutOver below0
def p0 : Program := .bare "" "" ""
def e0 : Env := launch0.env 0 0 0
theorem w_frames : about1.frames = Frame.invoking theMethod args0 :: below0 := rfl
set_option maxRecDepth 65536 in
theorem w_args : argsFit about1.vm theMethod args0 = true := by decide +kernel
set_option maxRecDepth 65536 in
theorem w_heap : heapFits about1 = true := by decide +kernel
set_option maxRecDepth 65536 in
theorem w_runnable : about1.curStatus? = some .runnable := by decide +kernel
set_option maxRecDepth 65536 in
theorem w_alone : about1.alone = true := by decide +kernel
set_option maxRecDepth 65536 in
theorem w_named : about1.methodNamed? x = some theMethod := by decide +kernel
set_option maxRecDepth 65536 in
theorem w_hears : about1.hears theMethod below0 = true := by decide +kernel
set_option maxRecDepth 65536 in
theorem w_ripe : about1.ripe theMethod args0 below0 = true := by decide +kernel
theorem w_running : about1.status = .running := rfl
set_option maxRecDepth 65536 in
theorem w_room : about1.hasRoom e0.platform room_1 = true :=
  launch0.hasRoom_least _ room_1 (by decide +kernel) (by decide +kernel) (by decide +kernel) (by decide +kernel) (by decide +kernel) (by decide +kernel)
theorem allAtoms_all (ts : List Jvm.Cond) (a : Array Jvm.Value) (st : Jvm.State) : (allAtoms ts).before a st = ts.all (fun c => c.before a st) := by
  induction ts with
  | nil => rfl
  | cons c t ih =>
    show (Jvm.Cond.and c (allAtoms t)).before a st = _
    rw [Jvm.Cond.before_and, ih, List.all_cons]
def words1 : List Jvm.Cond := Jvm.Cond.code x code maxLocals ret :: tables_1
/-- a 'code' word, met by the world's own term for the bytes: nothing is compared byte by byte -/
theorem code_word {y : MethodName} {bytes : ByteArray} {mx : Nat} {rt : Option FieldType} {a : Array Value} {s : State} {m : MethodId} {meth : Method} {c : Code} (h1 : s.methodNamed? y = some m) (h2 : s.vm.method? m = some meth) (h3 : meth.code = some c) (h4 : c.code = bytes)
    (h5 : (c.maxLocals == mx && c.exceptionTable.isEmpty && decide (c.maxStack ≤ mostOperands) && decide (meth.sig.returnType = rt) && !meth.locks && decide (parseMethodDescriptor y.desc = some meth.sig)) = true) : (Jvm.Cond.code y bytes mx rt).before a s = true := by
  simp only [Bool.and_eq_true, beq_iff_eq, Bool.not_eq_true', decide_eq_true_eq] at h5
  obtain ⟨⟨⟨⟨⟨g1, g2⟩, g3⟩, g4⟩, g5⟩, g6⟩ := h5
  simp [Cond.before, Cond.holds, Cond.value, h1, h2, h3, h4, g1, g2, g3, g4, g5, g6]
def isCode : Jvm.Cond → Bool
  | .code _ _ _ _ => true
  | _ => false
theorem all_split {L : List Jvm.Cond} {P : Jvm.Cond → Bool} (h1 : L.all (fun c => isCode c || P c) = true) (h2 : ∀ c ∈ L.filter isCode, P c = true) : L.all P = true := by
  refine List.all_eq_true.mpr fun c hc => ?_
  have h := List.all_eq_true.mp h1 c hc
  rcases Bool.eq_false_or_eq_true (isCode c) with hi | hi
  · exact h2 c (List.mem_filter.mpr ⟨hc, hi⟩)
  · simpa [hi] using h
set_option maxRecDepth 65536 in
theorem w_c0 : (Jvm.Cond.code x code maxLocals ret).before args0 about1 = true := code_word (m := ⟨1, 5⟩) (meth := k1m5) (c := k1c5) (by decide +kernel) rfl rfl rfl (by decide +kernel)
set_option maxRecDepth 65536 in
theorem w_c1 : (Jvm.Cond.code ({ cls := "com/example/lavoro/lavoro/NamesCheckPinLaw", name := "draw", desc := "(I)C" } : Jvm.MethodName) method_2_code (3 : Nat) (Option.some Jvm.ClassFile.FieldType.char)).before args0 about1 = true := code_word (m := ⟨1, 1⟩) (meth := k1m1) (c := k1c1) (by decide +kernel) rfl rfl rfl (by decide +kernel)
set_option maxRecDepth 65536 in
theorem w_c2 : (Jvm.Cond.code ({ cls := "java/lang/Math", name := "max", desc := "(II)I" } : Jvm.MethodName) jdk_29_method_65_code (2 : Nat) (Option.some Jvm.ClassFile.FieldType.int)).before args0 about1 = true := code_word (m := ⟨2, 1⟩) (meth := k2m1) (c := k2c1) (by decide +kernel) rfl rfl rfl (by decide +kernel)
set_option maxRecDepth 65536 in
theorem w_c3 : (Jvm.Cond.code ({ cls := "java/lang/String", name := "<init>", desc := "([C)V" } : Jvm.MethodName) jdk_42_method_3_code (2 : Nat) (Option.none : Option Jvm.ClassFile.FieldType)).before args0 about1 = true := code_word (m := ⟨8, 1⟩) (meth := k8m1) (c := k8c1) (by decide +kernel) rfl rfl rfl (by decide +kernel)
set_option maxRecDepth 65536 in
theorem w_c4 : (Jvm.Cond.code ({ cls := "java/lang/String", name := "<init>", desc := "([CIILjava/lang/Void;)V" } : Jvm.MethodName) jdk_42_method_149_code (6 : Nat) (Option.none : Option Jvm.ClassFile.FieldType)).before args0 about1 = true := code_word (m := ⟨8, 6⟩) (meth := k8m6) (c := k8c6) (by decide +kernel) rfl rfl rfl (by decide +kernel)
set_option maxRecDepth 65536 in
theorem w_c5 : (Jvm.Cond.code ({ cls := "java/lang/Object", name := "<init>", desc := "()V" } : Jvm.MethodName) object_method_1_code (1 : Nat) (Option.none : Option Jvm.ClassFile.FieldType)).before args0 about1 = true := code_word (m := ⟨0, 0⟩) (meth := k0m0) (c := k0c0) (by decide +kernel) rfl rfl rfl (by decide +kernel)
set_option maxRecDepth 65536 in
theorem w_c6 : (Jvm.Cond.code ({ cls := "java/lang/StringUTF16", name := "compress", desc := "([CII)[B" } : Jvm.MethodName) jdk_52_method_16_code (6 : Nat) (Option.some (Jvm.ClassFile.FieldType.array Jvm.ClassFile.FieldType.byte))).before args0 about1 = true := code_word (m := ⟨9, 10⟩) (meth := k9m10) (c := k9c10) (by decide +kernel) rfl rfl rfl (by decide +kernel)
set_option maxRecDepth 65536 in
theorem w_c7 : (Jvm.Cond.code ({ cls := "java/lang/StringUTF16", name := "compress", desc := "([CI[BII)I" } : Jvm.MethodName) jdk_52_method_21_code (7 : Nat) (Option.some Jvm.ClassFile.FieldType.int)).before args0 about1 = true := code_word (m := ⟨9, 11⟩) (meth := k9m11) (c := k9c11) (by decide +kernel) rfl rfl rfl (by decide +kernel)
set_option maxRecDepth 65536 in
theorem w_c8 : (Jvm.Cond.code ({ cls := "java/lang/StringUTF16", name := "toBytes", desc := "([CII)[B" } : Jvm.MethodName) jdk_52_method_14_code (5 : Nat) (Option.some (Jvm.ClassFile.FieldType.array Jvm.ClassFile.FieldType.byte))).before args0 about1 = true := code_word (m := ⟨9, 8⟩) (meth := k9m8) (c := k9c8) (by decide +kernel) rfl rfl rfl (by decide +kernel)
set_option maxRecDepth 65536 in
theorem w_c9 : (Jvm.Cond.code ({ cls := "java/lang/StringUTF16", name := "newBytesFor", desc := "(I)[B" } : Jvm.MethodName) jdk_52_method_2_code (1 : Nat) (Option.some (Jvm.ClassFile.FieldType.array Jvm.ClassFile.FieldType.byte))).before args0 about1 = true := code_word (m := ⟨9, 1⟩) (meth := k9m1) (c := k9c1) (by decide +kernel) rfl rfl rfl (by decide +kernel)
set_option maxRecDepth 65536 in
theorem w_c10 : (Jvm.Cond.code ({ cls := "java/lang/StringUTF16", name := "newBytesLength", desc := "(I)I" } : Jvm.MethodName) jdk_52_method_3_code (1 : Nat) (Option.some Jvm.ClassFile.FieldType.int)).before args0 about1 = true := code_word (m := ⟨9, 2⟩) (meth := k9m2) (c := k9c2) (by decide +kernel) rfl rfl rfl (by decide +kernel)
set_option maxRecDepth 65536 in
theorem w_c11 : (Jvm.Cond.code ({ cls := "java/lang/StringUTF16", name := "putChar", desc := "([BII)V" } : Jvm.MethodName) jdk_52_method_4_code (3 : Nat) (Option.none : Option Jvm.ClassFile.FieldType)).before args0 about1 = true := code_word (m := ⟨9, 3⟩) (meth := k9m3) (c := k9c3) (by decide +kernel) rfl rfl rfl (by decide +kernel)
set_option maxRecDepth 65536 in
theorem w_c12 : (Jvm.Cond.code ({ cls := "java/lang/StringUTF16", name := "getChar", desc := "([BI)C" } : Jvm.MethodName) jdk_52_method_5_code (2 : Nat) (Option.some Jvm.ClassFile.FieldType.char)).before args0 about1 = true := code_word (m := ⟨9, 4⟩) (meth := k9m4) (c := k9c4) (by decide +kernel) rfl rfl rfl (by decide +kernel)
set_option maxRecDepth 65536 in
theorem w_c13 : (Jvm.Cond.code ({ cls := "java/lang/StringUTF16", name := "coderFromArrayLen", desc := "([BI)B" } : Jvm.MethodName) jdk_52_method_15_code (2 : Nat) (Option.some Jvm.ClassFile.FieldType.byte)).before args0 about1 = true := code_word (m := ⟨9, 9⟩) (meth := k9m9) (c := k9c9) (by decide +kernel) rfl rfl rfl (by decide +kernel)
set_option maxRecDepth 65536 in
theorem w_c14 : (Jvm.Cond.code ({ cls := "com/example/lavoro/lavoro/Names", name := "check", desc := "(Ljava/lang/String;Ljava/lang/String;I)Ljava/lang/String;" } : Jvm.MethodName) prog_16_method_2_code (4 : Nat) (Option.some (Jvm.ClassFile.FieldType.object "java/lang/String"))).before args0 about1 = true := code_word (m := ⟨10, 1⟩) (meth := k10m1) (c := k10c1) (by decide +kernel) rfl rfl rfl (by decide +kernel)
set_option maxRecDepth 65536 in
theorem w_c15 : (Jvm.Cond.code ({ cls := "java/util/Objects", name := "requireNonNull", desc := "(Ljava/lang/Object;Ljava/lang/String;)Ljava/lang/Object;" } : Jvm.MethodName) jdk_31_method_11_code (2 : Nat) (Option.some (Jvm.ClassFile.FieldType.object "java/lang/Object"))).before args0 about1 = true := code_word (m := ⟨11, 1⟩) (meth := k11m1) (c := k11c1) (by decide +kernel) rfl rfl rfl (by decide +kernel)
set_option maxRecDepth 65536 in
theorem w_c16 : (Jvm.Cond.code ({ cls := "java/lang/String", name := "length", desc := "()I" } : Jvm.MethodName) jdk_42_method_54_code (1 : Nat) (Option.some Jvm.ClassFile.FieldType.int)).before args0 about1 = true := code_word (m := ⟨8, 2⟩) (meth := k8m2) (c := k8c2) (by decide +kernel) rfl rfl rfl (by decide +kernel)
set_option maxRecDepth 65536 in
theorem w_c17 : (Jvm.Cond.code ({ cls := "java/lang/String", name := "coder", desc := "()B" } : Jvm.MethodName) jdk_42_method_152_code (1 : Nat) (Option.some Jvm.ClassFile.FieldType.byte)).before args0 about1 = true := code_word (m := ⟨8, 7⟩) (meth := k8m7) (c := k8c7) (by decide +kernel) rfl rfl rfl (by decide +kernel)
set_option maxRecDepth 65536 in
theorem w_c18 : (Jvm.Cond.code ({ cls := "java/lang/String", name := "codePointCount", desc := "(II)I" } : Jvm.MethodName) jdk_42_method_59_code (3 : Nat) (Option.some Jvm.ClassFile.FieldType.int)).before args0 about1 = true := code_word (m := ⟨8, 3⟩) (meth := k8m3) (c := k8c3) (by decide +kernel) rfl rfl rfl (by decide +kernel)
set_option maxRecDepth 65536 in
theorem w_c19 : (Jvm.Cond.code ({ cls := "java/util/Objects", name := "checkFromToIndex", desc := "(III)I" } : Jvm.MethodName) jdk_31_method_18_code (3 : Nat) (Option.some Jvm.ClassFile.FieldType.int)).before args0 about1 = true := code_word (m := ⟨11, 2⟩) (meth := k11m2) (c := k11c2) (by decide +kernel) rfl rfl rfl (by decide +kernel)
set_option maxRecDepth 65536 in
theorem w_c20 : (Jvm.Cond.code ({ cls := "jdk/internal/util/Preconditions", name := "checkFromToIndex", desc := "(IIILjava/util/function/BiFunction;)I" } : Jvm.MethodName) jdk_41_method_12_code (4 : Nat) (Option.some Jvm.ClassFile.FieldType.int)).before args0 about1 = true := code_word (m := ⟨12, 1⟩) (meth := k12m1) (c := k12c1) (by decide +kernel) rfl rfl rfl (by decide +kernel)
set_option maxRecDepth 65536 in
theorem w_c21 : (Jvm.Cond.code ({ cls := "java/lang/String", name := "isLatin1", desc := "()Z" } : Jvm.MethodName) jdk_42_method_154_code (1 : Nat) (Option.some Jvm.ClassFile.FieldType.boolean)).before args0 about1 = true := code_word (m := ⟨8, 8⟩) (meth := k8m8) (c := k8c8) (by decide +kernel) rfl rfl rfl (by decide +kernel)
set_option maxRecDepth 65536 in
theorem w_c22 : (Jvm.Cond.code ({ cls := "java/lang/StringUTF16", name := "codePointCount", desc := "([BII)I" } : Jvm.MethodName) jdk_52_method_12_code (3 : Nat) (Option.some Jvm.ClassFile.FieldType.int)).before args0 about1 = true := code_word (m := ⟨9, 7⟩) (meth := k9m7) (c := k9c7) (by decide +kernel) rfl rfl rfl (by decide +kernel)
set_option maxRecDepth 65536 in
theorem w_c23 : (Jvm.Cond.code ({ cls := "java/lang/StringUTF16", name := "codePointCount", desc := "([BIIZ)I" } : Jvm.MethodName) jdk_52_method_11_code (6 : Nat) (Option.some Jvm.ClassFile.FieldType.int)).before args0 about1 = true := code_word (m := ⟨9, 6⟩) (meth := k9m6) (c := k9c6) (by decide +kernel) rfl rfl rfl (by decide +kernel)
set_option maxRecDepth 65536 in
theorem w_c24 : (Jvm.Cond.code ({ cls := "java/lang/String", name := "indexOf", desc := "(I)I" } : Jvm.MethodName) jdk_42_method_79_code (2 : Nat) (Option.some Jvm.ClassFile.FieldType.int)).before args0 about1 = true := code_word (m := ⟨8, 4⟩) (meth := k8m4) (c := k8c4) (by decide +kernel) rfl rfl rfl (by decide +kernel)
set_option maxRecDepth 65536 in
theorem w_c25 : (Jvm.Cond.code ({ cls := "java/lang/String", name := "indexOf", desc := "(II)I" } : Jvm.MethodName) jdk_42_method_80_code (3 : Nat) (Option.some Jvm.ClassFile.FieldType.int)).before args0 about1 = true := code_word (m := ⟨8, 5⟩) (meth := k8m5) (c := k8c5) (by decide +kernel) rfl rfl rfl (by decide +kernel)
set_option maxRecDepth 65536 in
theorem w_c26 : (Jvm.Cond.code ({ cls := "java/lang/StringUTF16", name := "indexOf", desc := "([BIII)I" } : Jvm.MethodName) jdk_52_method_40_code (4 : Nat) (Option.some Jvm.ClassFile.FieldType.int)).before args0 about1 = true := code_word (m := ⟨9, 12⟩) (meth := k9m12) (c := k9c12) (by decide +kernel) rfl rfl rfl (by decide +kernel)
set_option maxRecDepth 65536 in
theorem w_c27 : (Jvm.Cond.code ({ cls := "java/lang/Math", name := "min", desc := "(II)I" } : Jvm.MethodName) jdk_29_method_69_code (2 : Nat) (Option.some Jvm.ClassFile.FieldType.int)).before args0 about1 = true := code_word (m := ⟨2, 2⟩) (meth := k2m2) (c := k2c2) (by decide +kernel) rfl rfl rfl (by decide +kernel)
set_option maxRecDepth 65536 in
theorem w_c28 : (Jvm.Cond.code ({ cls := "java/lang/StringUTF16", name := "indexOfChar", desc := "([BIII)I" } : Jvm.MethodName) jdk_52_method_47_code (4 : Nat) (Option.some Jvm.ClassFile.FieldType.int)).before args0 about1 = true := code_word (m := ⟨9, 13⟩) (meth := k9m13) (c := k9c13) (by decide +kernel) rfl rfl rfl (by decide +kernel)
set_option maxRecDepth 65536 in
theorem w_c29 : (Jvm.Cond.code ({ cls := "java/lang/StringUTF16", name := "checkBoundsBeginEnd", desc := "(II[B)V" } : Jvm.MethodName) jdk_52_method_93_code (3 : Nat) (Option.none : Option Jvm.ClassFile.FieldType)).before args0 about1 = true := code_word (m := ⟨9, 15⟩) (meth := k9m15) (c := k9c15) (by decide +kernel) rfl rfl rfl (by decide +kernel)
set_option maxRecDepth 65536 in
theorem w_c30 : (Jvm.Cond.code ({ cls := "java/lang/StringUTF16", name := "length", desc := "([B)I" } : Jvm.MethodName) jdk_52_method_6_code (1 : Nat) (Option.some Jvm.ClassFile.FieldType.int)).before args0 about1 = true := code_word (m := ⟨9, 5⟩) (meth := k9m5) (c := k9c5) (by decide +kernel) rfl rfl rfl (by decide +kernel)
set_option maxRecDepth 65536 in
theorem w_c31 : (Jvm.Cond.code ({ cls := "java/lang/String", name := "checkBoundsBeginEnd", desc := "(III)V" } : Jvm.MethodName) jdk_42_method_158_code (3 : Nat) (Option.none : Option Jvm.ClassFile.FieldType)).before args0 about1 = true := code_word (m := ⟨8, 9⟩) (meth := k8m9) (c := k8c9) (by decide +kernel) rfl rfl rfl (by decide +kernel)
set_option maxRecDepth 65536 in
theorem w_c32 : (Jvm.Cond.code ({ cls := "java/lang/StringUTF16", name := "indexOfCharUnsafe", desc := "([BIII)I" } : Jvm.MethodName) jdk_52_method_48_code (5 : Nat) (Option.some Jvm.ClassFile.FieldType.int)).before args0 about1 = true := code_word (m := ⟨9, 14⟩) (meth := k9m14) (c := k9c14) (by decide +kernel) rfl rfl rfl (by decide +kernel)
set_option maxRecDepth 65536 in
theorem w_c33 : (Jvm.Cond.code ({ cls := "com/example/lavoro/lavoro/NamesCheckPinLaw", name := "pair", desc := "(CC)I" } : Jvm.MethodName) method_5_code (2 : Nat) (Option.some Jvm.ClassFile.FieldType.int)).before args0 about1 = true := code_word (m := ⟨1, 4⟩) (meth := k1m4) (c := k1c4) (by decide +kernel) rfl rfl rfl (by decide +kernel)
set_option maxRecDepth 65536 in
theorem w_c34 : (Jvm.Cond.code ({ cls := "com/example/lavoro/lavoro/NamesCheckPinLaw", name := "high", desc := "(C)Z" } : Jvm.MethodName) method_3_code (1 : Nat) (Option.some Jvm.ClassFile.FieldType.boolean)).before args0 about1 = true := code_word (m := ⟨1, 2⟩) (meth := k1m2) (c := k1c2) (by decide +kernel) rfl rfl rfl (by decide +kernel)
set_option maxRecDepth 65536 in
theorem w_c35 : (Jvm.Cond.code ({ cls := "java/lang/Character", name := "isHighSurrogate", desc := "(C)Z" } : Jvm.MethodName) jdk_89_method_14_code (1 : Nat) (Option.some Jvm.ClassFile.FieldType.boolean)).before args0 about1 = true := code_word (m := ⟨13, 0⟩) (meth := k13m0) (c := k13c0) (by decide +kernel) rfl rfl rfl (by decide +kernel)
set_option maxRecDepth 65536 in
theorem w_c36 : (Jvm.Cond.code ({ cls := "com/example/lavoro/lavoro/NamesCheckPinLaw", name := "low", desc := "(C)Z" } : Jvm.MethodName) method_4_code (1 : Nat) (Option.some Jvm.ClassFile.FieldType.boolean)).before args0 about1 = true := code_word (m := ⟨1, 3⟩) (meth := k1m3) (c := k1c3) (by decide +kernel) rfl rfl rfl (by decide +kernel)
set_option maxRecDepth 65536 in
theorem w_c37 : (Jvm.Cond.code ({ cls := "java/lang/Character", name := "isLowSurrogate", desc := "(C)Z" } : Jvm.MethodName) jdk_89_method_15_code (1 : Nat) (Option.some Jvm.ClassFile.FieldType.boolean)).before args0 about1 = true := code_word (m := ⟨13, 1⟩) (meth := k13m1) (c := k13c1) (by decide +kernel) rfl rfl rfl (by decide +kernel)
set_option maxRecDepth 65536 in
theorem w_c38 : (Jvm.Cond.code ({ cls := "java/lang/StringLatin1", name := "indexOf", desc := "([BIII)I" } : Jvm.MethodName) jdk_43_method_22_code (4 : Nat) (Option.some Jvm.ClassFile.FieldType.int)).before args0 about1 = true := code_word (m := ⟨14, 2⟩) (meth := k14m2) (c := k14c2) (by decide +kernel) rfl rfl rfl (by decide +kernel)
set_option maxRecDepth 65536 in
theorem w_c39 : (Jvm.Cond.code ({ cls := "java/lang/StringLatin1", name := "canEncode", desc := "(I)Z" } : Jvm.MethodName) jdk_43_method_4_code (1 : Nat) (Option.some Jvm.ClassFile.FieldType.boolean)).before args0 about1 = true := code_word (m := ⟨14, 1⟩) (meth := k14m1) (c := k14c1) (by decide +kernel) rfl rfl rfl (by decide +kernel)
set_option maxRecDepth 65536 in
theorem w_c40 : (Jvm.Cond.code ({ cls := "java/lang/StringLatin1", name := "indexOfChar", desc := "([BIII)I" } : Jvm.MethodName) jdk_43_method_23_code (6 : Nat) (Option.some Jvm.ClassFile.FieldType.int)).before args0 about1 = true := code_word (m := ⟨14, 3⟩) (meth := k14m3) (c := k14c3) (by decide +kernel) rfl rfl rfl (by decide +kernel)
def codes1 : List Jvm.Cond := [Jvm.Cond.code x code maxLocals ret, Jvm.Cond.code ({ cls := "com/example/lavoro/lavoro/NamesCheckPinLaw", name := "draw", desc := "(I)C" } : Jvm.MethodName) method_2_code (3 : Nat) (Option.some Jvm.ClassFile.FieldType.char), Jvm.Cond.code ({ cls := "java/lang/Math", name := "max", desc := "(II)I" } : Jvm.MethodName) jdk_29_method_65_code (2 : Nat) (Option.some Jvm.ClassFile.FieldType.int), Jvm.Cond.code ({ cls := "java/lang/String", name := "<init>", desc := "([C)V" } : Jvm.MethodName) jdk_42_method_3_code (2 : Nat) (Option.none : Option Jvm.ClassFile.FieldType), Jvm.Cond.code ({ cls := "java/lang/String", name := "<init>", desc := "([CIILjava/lang/Void;)V" } : Jvm.MethodName) jdk_42_method_149_code (6 : Nat) (Option.none : Option Jvm.ClassFile.FieldType), Jvm.Cond.code ({ cls := "java/lang/Object", name := "<init>", desc := "()V" } : Jvm.MethodName) object_method_1_code (1 : Nat) (Option.none : Option Jvm.ClassFile.FieldType), Jvm.Cond.code ({ cls := "java/lang/StringUTF16", name := "compress", desc := "([CII)[B" } : Jvm.MethodName) jdk_52_method_16_code (6 : Nat) (Option.some (Jvm.ClassFile.FieldType.array Jvm.ClassFile.FieldType.byte)), Jvm.Cond.code ({ cls := "java/lang/StringUTF16", name := "compress", desc := "([CI[BII)I" } : Jvm.MethodName) jdk_52_method_21_code (7 : Nat) (Option.some Jvm.ClassFile.FieldType.int), Jvm.Cond.code ({ cls := "java/lang/StringUTF16", name := "toBytes", desc := "([CII)[B" } : Jvm.MethodName) jdk_52_method_14_code (5 : Nat) (Option.some (Jvm.ClassFile.FieldType.array Jvm.ClassFile.FieldType.byte)), Jvm.Cond.code ({ cls := "java/lang/StringUTF16", name := "newBytesFor", desc := "(I)[B" } : Jvm.MethodName) jdk_52_method_2_code (1 : Nat) (Option.some (Jvm.ClassFile.FieldType.array Jvm.ClassFile.FieldType.byte)), Jvm.Cond.code ({ cls := "java/lang/StringUTF16", name := "newBytesLength", desc := "(I)I" } : Jvm.MethodName) jdk_52_method_3_code (1 : Nat) (Option.some Jvm.ClassFile.FieldType.int), Jvm.Cond.code ({ cls := "java/lang/StringUTF16", name := "putChar", desc := "([BII)V" } : Jvm.MethodName) jdk_52_method_4_code (3 : Nat) (Option.none : Option Jvm.ClassFile.FieldType), Jvm.Cond.code ({ cls := "java/lang/StringUTF16", name := "getChar", desc := "([BI)C" } : Jvm.MethodName) jdk_52_method_5_code (2 : Nat) (Option.some Jvm.ClassFile.FieldType.char), Jvm.Cond.code ({ cls := "java/lang/StringUTF16", name := "coderFromArrayLen", desc := "([BI)B" } : Jvm.MethodName) jdk_52_method_15_code (2 : Nat) (Option.some Jvm.ClassFile.FieldType.byte), Jvm.Cond.code ({ cls := "com/example/lavoro/lavoro/Names", name := "check", desc := "(Ljava/lang/String;Ljava/lang/String;I)Ljava/lang/String;" } : Jvm.MethodName) prog_16_method_2_code (4 : Nat) (Option.some (Jvm.ClassFile.FieldType.object "java/lang/String")), Jvm.Cond.code ({ cls := "java/util/Objects", name := "requireNonNull", desc := "(Ljava/lang/Object;Ljava/lang/String;)Ljava/lang/Object;" } : Jvm.MethodName) jdk_31_method_11_code (2 : Nat) (Option.some (Jvm.ClassFile.FieldType.object "java/lang/Object")), Jvm.Cond.code ({ cls := "java/lang/String", name := "length", desc := "()I" } : Jvm.MethodName) jdk_42_method_54_code (1 : Nat) (Option.some Jvm.ClassFile.FieldType.int), Jvm.Cond.code ({ cls := "java/lang/String", name := "coder", desc := "()B" } : Jvm.MethodName) jdk_42_method_152_code (1 : Nat) (Option.some Jvm.ClassFile.FieldType.byte), Jvm.Cond.code ({ cls := "java/lang/String", name := "codePointCount", desc := "(II)I" } : Jvm.MethodName) jdk_42_method_59_code (3 : Nat) (Option.some Jvm.ClassFile.FieldType.int), Jvm.Cond.code ({ cls := "java/util/Objects", name := "checkFromToIndex", desc := "(III)I" } : Jvm.MethodName) jdk_31_method_18_code (3 : Nat) (Option.some Jvm.ClassFile.FieldType.int), Jvm.Cond.code ({ cls := "jdk/internal/util/Preconditions", name := "checkFromToIndex", desc := "(IIILjava/util/function/BiFunction;)I" } : Jvm.MethodName) jdk_41_method_12_code (4 : Nat) (Option.some Jvm.ClassFile.FieldType.int), Jvm.Cond.code ({ cls := "java/lang/String", name := "isLatin1", desc := "()Z" } : Jvm.MethodName) jdk_42_method_154_code (1 : Nat) (Option.some Jvm.ClassFile.FieldType.boolean), Jvm.Cond.code ({ cls := "java/lang/StringUTF16", name := "codePointCount", desc := "([BII)I" } : Jvm.MethodName) jdk_52_method_12_code (3 : Nat) (Option.some Jvm.ClassFile.FieldType.int), Jvm.Cond.code ({ cls := "java/lang/StringUTF16", name := "codePointCount", desc := "([BIIZ)I" } : Jvm.MethodName) jdk_52_method_11_code (6 : Nat) (Option.some Jvm.ClassFile.FieldType.int), Jvm.Cond.code ({ cls := "java/lang/String", name := "indexOf", desc := "(I)I" } : Jvm.MethodName) jdk_42_method_79_code (2 : Nat) (Option.some Jvm.ClassFile.FieldType.int), Jvm.Cond.code ({ cls := "java/lang/String", name := "indexOf", desc := "(II)I" } : Jvm.MethodName) jdk_42_method_80_code (3 : Nat) (Option.some Jvm.ClassFile.FieldType.int), Jvm.Cond.code ({ cls := "java/lang/StringUTF16", name := "indexOf", desc := "([BIII)I" } : Jvm.MethodName) jdk_52_method_40_code (4 : Nat) (Option.some Jvm.ClassFile.FieldType.int), Jvm.Cond.code ({ cls := "java/lang/Math", name := "min", desc := "(II)I" } : Jvm.MethodName) jdk_29_method_69_code (2 : Nat) (Option.some Jvm.ClassFile.FieldType.int), Jvm.Cond.code ({ cls := "java/lang/StringUTF16", name := "indexOfChar", desc := "([BIII)I" } : Jvm.MethodName) jdk_52_method_47_code (4 : Nat) (Option.some Jvm.ClassFile.FieldType.int), Jvm.Cond.code ({ cls := "java/lang/StringUTF16", name := "checkBoundsBeginEnd", desc := "(II[B)V" } : Jvm.MethodName) jdk_52_method_93_code (3 : Nat) (Option.none : Option Jvm.ClassFile.FieldType), Jvm.Cond.code ({ cls := "java/lang/StringUTF16", name := "length", desc := "([B)I" } : Jvm.MethodName) jdk_52_method_6_code (1 : Nat) (Option.some Jvm.ClassFile.FieldType.int), Jvm.Cond.code ({ cls := "java/lang/String", name := "checkBoundsBeginEnd", desc := "(III)V" } : Jvm.MethodName) jdk_42_method_158_code (3 : Nat) (Option.none : Option Jvm.ClassFile.FieldType), Jvm.Cond.code ({ cls := "java/lang/StringUTF16", name := "indexOfCharUnsafe", desc := "([BIII)I" } : Jvm.MethodName) jdk_52_method_48_code (5 : Nat) (Option.some Jvm.ClassFile.FieldType.int), Jvm.Cond.code ({ cls := "com/example/lavoro/lavoro/NamesCheckPinLaw", name := "pair", desc := "(CC)I" } : Jvm.MethodName) method_5_code (2 : Nat) (Option.some Jvm.ClassFile.FieldType.int), Jvm.Cond.code ({ cls := "com/example/lavoro/lavoro/NamesCheckPinLaw", name := "high", desc := "(C)Z" } : Jvm.MethodName) method_3_code (1 : Nat) (Option.some Jvm.ClassFile.FieldType.boolean), Jvm.Cond.code ({ cls := "java/lang/Character", name := "isHighSurrogate", desc := "(C)Z" } : Jvm.MethodName) jdk_89_method_14_code (1 : Nat) (Option.some Jvm.ClassFile.FieldType.boolean), Jvm.Cond.code ({ cls := "com/example/lavoro/lavoro/NamesCheckPinLaw", name := "low", desc := "(C)Z" } : Jvm.MethodName) method_4_code (1 : Nat) (Option.some Jvm.ClassFile.FieldType.boolean), Jvm.Cond.code ({ cls := "java/lang/Character", name := "isLowSurrogate", desc := "(C)Z" } : Jvm.MethodName) jdk_89_method_15_code (1 : Nat) (Option.some Jvm.ClassFile.FieldType.boolean), Jvm.Cond.code ({ cls := "java/lang/StringLatin1", name := "indexOf", desc := "([BIII)I" } : Jvm.MethodName) jdk_43_method_22_code (4 : Nat) (Option.some Jvm.ClassFile.FieldType.int), Jvm.Cond.code ({ cls := "java/lang/StringLatin1", name := "canEncode", desc := "(I)Z" } : Jvm.MethodName) jdk_43_method_4_code (1 : Nat) (Option.some Jvm.ClassFile.FieldType.boolean), Jvm.Cond.code ({ cls := "java/lang/StringLatin1", name := "indexOfChar", desc := "([BIII)I" } : Jvm.MethodName) jdk_43_method_23_code (6 : Nat) (Option.some Jvm.ClassFile.FieldType.int)]
set_option maxRecDepth 65536 in
theorem codes_eq : words1.filter isCode = codes1 := rfl
theorem w_codes : ∀ c ∈ words1.filter isCode, c.before args0 about1 = true := by
  rw [codes_eq]
  intro c hc
  simp only [codes1, List.mem_cons, List.not_mem_nil, or_false] at hc
  rcases hc with rfl | rfl | rfl | rfl | rfl | rfl | rfl | rfl | rfl | rfl | rfl | rfl | rfl | rfl | rfl | rfl | rfl | rfl | rfl | rfl | rfl | rfl | rfl | rfl | rfl | rfl | rfl | rfl | rfl | rfl | rfl | rfl | rfl | rfl | rfl | rfl | rfl | rfl | rfl | rfl | rfl
  · exact w_c0
  · exact w_c1
  · exact w_c2
  · exact w_c3
  · exact w_c4
  · exact w_c5
  · exact w_c6
  · exact w_c7
  · exact w_c8
  · exact w_c9
  · exact w_c10
  · exact w_c11
  · exact w_c12
  · exact w_c13
  · exact w_c14
  · exact w_c15
  · exact w_c16
  · exact w_c17
  · exact w_c18
  · exact w_c19
  · exact w_c20
  · exact w_c21
  · exact w_c22
  · exact w_c23
  · exact w_c24
  · exact w_c25
  · exact w_c26
  · exact w_c27
  · exact w_c28
  · exact w_c29
  · exact w_c30
  · exact w_c31
  · exact w_c32
  · exact w_c33
  · exact w_c34
  · exact w_c35
  · exact w_c36
  · exact w_c37
  · exact w_c38
  · exact w_c39
  · exact w_c40
set_option maxRecDepth 65536 in
theorem w_t1 : (words1.take 24).all (fun c => isCode c || c.before args0 about1) = true := by decide +kernel
set_option maxRecDepth 65536 in
theorem w_t2 : ((words1.drop 24).take 24).all (fun c => isCode c || c.before args0 about1) = true := by decide +kernel
set_option maxRecDepth 65536 in
theorem w_t3 : (((words1.drop 24).drop 24).take 24).all (fun c => isCode c || c.before args0 about1) = true := by decide +kernel
set_option maxRecDepth 65536 in
theorem w_t4 : ((((words1.drop 24).drop 24).drop 24).take 24).all (fun c => isCode c || c.before args0 about1) = true := by decide +kernel
set_option maxRecDepth 65536 in
theorem w_t5 : (((((words1.drop 24).drop 24).drop 24).drop 24).take 24).all (fun c => isCode c || c.before args0 about1) = true := by decide +kernel
set_option maxRecDepth 65536 in
theorem w_t6 : ((((((words1.drop 24).drop 24).drop 24).drop 24).drop 24).take 24).all (fun c => isCode c || c.before args0 about1) = true := by decide +kernel
set_option maxRecDepth 65536 in
theorem w_t7 : (((((((words1.drop 24).drop 24).drop 24).drop 24).drop 24).drop 24).take 24).all (fun c => isCode c || c.before args0 about1) = true := by decide +kernel
set_option maxRecDepth 65536 in
theorem w_t8 : (((((((words1.drop 24).drop 24).drop 24).drop 24).drop 24).drop 24).drop 24).all (fun c => isCode c || c.before args0 about1) = true := by decide +kernel
theorem w_tables : (allAtoms (Jvm.Cond.code x code maxLocals ret :: tables_1)).before args0 about1 = true := by
  rw [allAtoms_all]
  show words1.all (fun c => c.before args0 about1) = true
  refine all_split ?_ w_codes
  rw [← List.take_append_drop 24 words1, List.all_append, w_t1, ← List.take_append_drop 24 (words1.drop 24), List.all_append, w_t2, ← List.take_append_drop 24 ((words1.drop 24).drop 24), List.all_append, w_t3, ← List.take_append_drop 24 (((words1.drop 24).drop 24).drop 24), List.all_append, w_t4, ← List.take_append_drop 24 ((((words1.drop 24).drop 24).drop 24).drop 24), List.all_append, w_t5, ← List.take_append_drop 24 (((((words1.drop 24).drop 24).drop 24).drop 24).drop 24), List.all_append, w_t6, ← List.take_append_drop 24 ((((((words1.drop 24).drop 24).drop 24).drop 24).drop 24).drop 24), List.all_append, w_t7, w_t8]
  rfl
set_option maxRecDepth 65536 in
theorem w_rest : rest_1_c.before args0 about1 = true := by decide +kernel
set_option maxRecDepth 65536 in
theorem w_case : (Jvm.Cond.and given_1 narrow_1).before args0 about1 = true := by decide +kernel
theorem w_applies : (headSpec (Jvm.Cond.code x code maxLocals ret :: tables_1) room_1).applies x e0.platform about1 = true :=
  (Spec.applies_iff w_frames).mpr ⟨w_running, w_runnable, w_alone, w_named, w_hears, w_ripe, w_room, w_tables⟩
theorem atStart : AtStart classFile x code maxLocals ret World_1 tables_1 room_1 Calls_1 rest_1 Pre_1 launch0 p0 e0 about1 theMethod args0 below0 :=
  ⟨lists_1, trivial, launch0.admits_env _ _ _, launch0.least_env, fairChoices_fair.cas, fairChoices_fair.clock, w_frames, w_args, w_heap, w_applies, trivial, w_rest, w_case⟩
end start1
theorem witness_1 : WitnessClaimed_1 := ⟨start1.p0, start1.e0, start1.about1, start1.theMethod, start1.args0, start1.below0, start1.atStart⟩
end Jvm.Pilot.@@N@@
