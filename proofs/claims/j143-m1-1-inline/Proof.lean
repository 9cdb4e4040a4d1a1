import JvmDerived
import JvmDerived.Pilot.@@N@@Statement
import JvmDerived.Pilot.@@N@@Code
set_option linter.unusedVariables false
set_option linter.unusedSimpArgs false
namespace Jvm.Pilot.@@N@@
open Jvm Jvm.ClassFile Sem Op Lib Bundle Jvm.Free Jvm.Stand Jvm.LawKit Jvm.RoadKit
/-! ## The walk's own layer: where a run stands (Hr), a method's contract (Ct), one lemma a step. -/
/-- the fixed part of one walk: program, launch, environment, start, method, arguments, frames below, method record, code, the state where the steps begin, the cells that it may write, narrow tables?, known frames? -/
abbrev Cx : Type := Program × Launch × Env × State × MethodId × Array Value × List Frame × Method × Code × State × List Addr × Bool × Bool
abbrev Cx.p (x : Cx) : Program := x.1
abbrev Cx.l (x : Cx) : Launch := x.2.1
abbrev Cx.e (x : Cx) : Env := x.2.2.1
abbrev Cx.s (x : Cx) : State := x.2.2.2.1
abbrev Cx.m (x : Cx) : MethodId := x.2.2.2.2.1
abbrev Cx.args (x : Cx) : Array Value := x.2.2.2.2.2.1
abbrev Cx.below (x : Cx) : List Frame := x.2.2.2.2.2.2.1
abbrev Cx.meth (x : Cx) : Method := x.2.2.2.2.2.2.2.1
abbrev Cx.c (x : Cx) : Code := x.2.2.2.2.2.2.2.2.1
abbrev Cx.B (x : Cx) : State := x.2.2.2.2.2.2.2.2.2.1
abbrev Cx.sf0 (x : Cx) : List Addr := x.2.2.2.2.2.2.2.2.2.2.1
abbrev Cx.nar (x : Cx) : Bool := x.2.2.2.2.2.2.2.2.2.2.2.1
abbrev Cx.kn (x : Cx) : Bool := x.2.2.2.2.2.2.2.2.2.2.2.2
/-- a body: its room, its method's name, bytes, number of locals, what it returns -/
abbrev Bx : Type := Room × MethodName × ByteArray × Nat × Option FieldType
abbrev Bx.R (b : Bx) : Room := b.1
abbrev Bx.y (b : Bx) : MethodName := b.2.1
abbrev Bx.bytes (b : Bx) : ByteArray := b.2.2.1
abbrev Bx.maxL (b : Bx) : Nat := b.2.2.2.1
abbrev Bx.ret (b : Bx) : Option FieldType := b.2.2.2.2
/-- what never moves in a walk -/
def Bs (x : Cx) (b : Bx) (Z : State) (EL : List (String × Nat)) : Prop :=
  (∃ a0, EW Z a0 EL) ∧ x.p.tables.exec = Jvm.exec ∧ x.c.code = b.bytes ∧ x.c.maxLocals = b.maxL ∧ x.meth.sig.returnType = b.ret ∧ x.meth.locks = false ∧ x.meth.name = b.y.name
/-- a cell that the walk may write: made since the walk's start (or handed in), made since the law's start, and no literal's -/
def Mine (x : Cx) (Z : State) (EL : List (String × Nat)) (vm : Vm) (h : Heap) (a : Addr) : Prop := (a ∈ x.sf0 ∨ x.s.heap.size ≤ a) ∧ Z.heap.size ≤ a ∧ a < h.size ∧ Safe Z EL vm h a
/-- what moves, but for the frame -/
def Hx (x : Cx) (b : Bx) (Z : State) (EL : List (String × Nat)) (K S : Nat) (h : Heap) (sf : List Addr) (T : State) (locs : List Loc) (cells slots : Nat) (vm0 : Vm) (k0 : Nat) : Prop :=
  Stand x.p x.l x.e b.R (x.s.setVm vm0) x.m x.args x.below x.meth x.c T locs cells slots ∧ cells ≤ K ∧ slots ≤ S ∧ T.heap = h ∧ Fr Z.heap.size locs ∧
    x.s.Since vm0 k0 ∧ k0 ≤ h.size ∧ Z.Warmed39 vm0 ∧ vm0.findClass b.y.cls = some x.m.cls ∧
    CHr Z EL x.s.vm x.s.heap vm0 h ∧ Keep x.s.heap h x.sf0 ∧ Ext Z.heap h ∧ (∀ a ∈ sf, Mine x Z EL vm0 h a) ∧
    (x.nar = true → x.s.WarmedH vm0) ∧ (x.kn = true → vm0.MethodsKnown ∧ vm0.FramesKnown x.below)
/-- **WHERE THE RUN STANDS**: it has come to the frame (pc, Ls, st), the heap is h; at most K cells and S slots have been made; sf: cells that it may write -/
def Hr (x : Cx) (b : Bx) (Z : State) (EL : List (String × Nat)) (K S : Nat) (h : Heap) (sf : List Addr) (pc : Nat) (Ls : Array Slot) (st : List Value) : Prop :=
  Bs x b Z EL ∧ ∃ (T : State) (locs : List Loc) (cells slots : Nat) (vm0 : Vm) (k0 : Nat), Hx x b Z EL K S h sf T locs cells slots vm0 k0 ∧
    ∀ target, Steps x.p.tables x.e x.below (T.setTop (mkF x.m pc Ls st)) target → Steps x.p.tables x.e x.below x.B target
/-- what an end says: it returned v; Q of it, of the heap and of a list of cells that are the caller's to write; only the cells of sf, and new ones, have been written -/
def Pst (Z : State) (EL : List (String × Nat)) (sf : List Addr) (nar : Bool) (rm : Room) (Q : Option Value → Heap → List Addr → Prop) (U : State) (o : Outcome) (U' : State) : Prop :=
  ∃ (v : Option Value) (L : List Loc) (sn : List Addr), o = .returned v ∧ Q v U'.heap sn ∧ Keep U.heap U'.heap sf ∧ (∀ a ∈ sn, (a ∈ sf ∨ U.heap.size ≤ a) ∧ Z.heap.size ≤ a ∧ a < U'.heap.size ∧ Safe Z EL U'.vm U'.heap a) ∧ Fr Z.heap.size L ∧
    CHr Z EL U.vm U.heap U'.vm U'.heap ∧ (nar = true → U.WarmedH U'.vm) ∧ ReturnedEndW U o U' L rm.cells rm.slots
/-- **A METHOD's CONTRACT** at the arguments as', from the heap h, the cells of sf being its to write -/
def Ct (l : Launch) (Z : State) (EL : List (String × Nat)) (y : MethodName) (bytes : ByteArray) (maxL : Nat) (ret : Option FieldType) (rm : Room) (as' : Array Value) (h : Heap) (sf : List Addr) (nar kn : Bool) (Q : Option Value → Heap → List Addr → Prop) : Prop :=
  ∀ ws : List Jvm.Cond, MetFree l y (head1 (Jvm.Cond.code y bytes maxL ret :: ws) rm) (fun a U => a = as' ∧ Z.Warmed39 U.vm ∧ U.heap = h ∧ CHv Z EL U.vm h ∧ Ext Z.heap h ∧ ∀ a ∈ sf, Z.heap.size ≤ a ∧ a < h.size ∧ Safe Z EL U.vm h a)
    (fun _ _ bl s _ => kn = true → s.vm.MethodsKnown ∧ s.vm.FramesKnown bl) (fun _ U o U' => Pst Z EL sf nar rm Q U o U')
def Ends (x : Cx) (b : Bx) (Z : State) (EL : List (String × Nat)) (Q : Option Value → Heap → List Addr → Prop) : Prop :=
  ∃ (s₂ : State) (o : Outcome), Steps x.p.tables x.e x.below x.B s₂ ∧ s₂.status = .running ∧ Ended s₂ x.below o ∧ Pst Z EL x.sf0 x.nar b.R Q x.s o s₂
section Layer
variable {x : Cx} {b : Bx} {Z : State} {EL : List (String × Nat)} {K S : Nat} {h h' : Heap} {sf : List Addr} {pc pc' : Nat} {Ls Ls' : Array Slot} {st st' : List Value} {a0 : Array Value}
theorem Ext.rfl' (h : Heap) : Ext h h := ⟨Nat.le_refl _, fun _ _ q => q⟩
theorem Ext.tr {h1 h2 h3 : Heap} (A : Ext h1 h2) (B : Ext h2 h3) : Ext h1 h3 := ⟨Nat.le_trans A.1 B.1, fun a c q => B.2 a c (A.2 a c q)⟩
theorem Ext.keep {h1 h2 : Heap} (A : Ext h1 h2) (ws : List Addr) : Keep h1 h2 ws := (Keep.refl _ _).ext A
theorem Ext.ofKeep {h1 h2 h3 : Heap} {ws : List Addr} (A : Ext h1 h2) (B : Keep h2 h3 ws) (q : ∀ a ∈ ws, h1.size ≤ a) : Ext h1 h3 := ⟨Nat.le_trans A.1 B.1, fun a c r => B.2.1 a c (A.2 a c r) fun z => absurd (Array.getElem?_eq_some_iff.mp r).1 (Nat.not_lt.mpr (q a z))⟩
/-- the entry: a contract out of a walk -/
theorem Ct.intro {l : Launch} {y : MethodName} {bytes : ByteArray} {maxL : Nat} {ret : Option FieldType} {rm : Room} {as' : Array Value} {nar kn : Bool} {Q : Option Value → Heap → List Addr → Prop} (hpl : plainFor y = true) (hEL : EW Z a0 EL)
    (hef : ∀ m : MethodId, entryFrame m as' maxL = mkF m 0 Ls [])
    (body : ∀ x : Cx, x.l = l → x.nar = nar → x.kn = kn → x.sf0 = sf → x.s.heap = h → Hr x (rm, y, bytes, maxL, ret) Z EL 0 0 h sf 0 Ls [] → Ends x (rm, y, bytes, maxL, ret) Z EL Q) :
    Ct l Z EL y bytes maxL ret rm as' h sf nar kn Q := by
  intro ws
  refine MetFree.of_bodySF hpl hisR ?_
  intro p e s m args below meth c s₁ Bd hml0 hP hK
  obtain ⟨rfl, hZ, hh, hC, hE, hs⟩ := hP
  have hown : s.vm.findClass y.cls = some m.cls := findClass_of_methodNamed Bd.named
  have hnm := (name_of_methodNamed Bd.named Bd.method).1
  have X0 := Stand.of_body Bd
  have e0 : s₁.heap = h := by rw [← hh, Bd.state]; rfl
  subst hh
  have hF := body (p, l, e, s, m, args, below, meth, c, s₁.setTop (entryFrame m args maxL), sf, nar, kn) rfl rfl rfl rfl rfl
    ⟨⟨⟨_, hEL⟩, Bd.exec, Bd.bytes, hml0, Bd.returns, Bd.notSynchronized, hnm⟩, s₁, [], 0, 0, s.vm, s.heap.size,
      ⟨X0, Nat.le_refl _, Nat.le_refl _, e0, Fr.nil _, (State.WarmedH.refl s).since _, Nat.le_refl _, hZ, hown, CHr.refl hC, Keep.refl _ _, hE, fun a ha => ⟨Or.inl ha, hs a ha⟩, fun _ => State.WarmedH.refl s, hK⟩,
      fun t k => castTop (hef m) k⟩
  exact hF
theorem Hr.base (H : Hr x b Z EL K S h sf pc Ls st) : Bs x b Z EL := H.1
theorem Hr.old (H : Hr x b Z EL K S h sf pc Ls st) : Ext Z.heap h := by obtain ⟨-, T, locs, cells, slots, vm0, k0, X, -⟩ := H; exact X.2.2.2.2.2.2.2.2.2.2.2.1
theorem Hr.kept (H : Hr x b Z EL K S h sf pc Ls st) : Keep x.s.heap h x.sf0 := by obtain ⟨-, T, locs, cells, slots, vm0, k0, X, -⟩ := H; exact X.2.2.2.2.2.2.2.2.2.2.1
theorem Hr.lt {a : Addr} (H : Hr x b Z EL K S h sf pc Ls st) (ha : a ∈ sf) : a < h.size := by obtain ⟨-, T, locs, cells, slots, vm0, k0, X, -⟩ := H; exact (X.2.2.2.2.2.2.2.2.2.2.2.2.1 a ha).2.2.1
theorem Hr.ge {a : Addr} (H : Hr x b Z EL K S h sf pc Ls st) (ha : a ∈ sf) : Z.heap.size ≤ a := by obtain ⟨-, T, locs, cells, slots, vm0, k0, X, -⟩ := H; exact (X.2.2.2.2.2.2.2.2.2.2.2.2.1 a ha).2.1
theorem Hr.since (H : Hr x b Z EL K S h sf pc Ls st) {a : Addr} (ha : a ∈ sf) : a ∈ x.sf0 ∨ x.s.heap.size ≤ a := by obtain ⟨-, T, locs, cells, slots, vm0, k0, X, -⟩ := H; exact (X.2.2.2.2.2.2.2.2.2.2.2.2.1 a ha).1
/-- fewer cells to write, more room said to be used -/
theorem Hr.weaken {K' S' : Nat} {sf' : List Addr} (H : Hr x b Z EL K S h sf pc Ls st) (hK : K ≤ K') (hS : S ≤ S') (hsf : ∀ a ∈ sf', a ∈ sf) : Hr x b Z EL K' S' h sf' pc Ls st := by
  obtain ⟨B, T, locs, cells, slots, vm0, k0, ⟨X, h1, h2, h3, h4, h5, h6, h7, h8, h9, h10, h11, h12, h13, h14⟩, k⟩ := H
  exact ⟨B, T, locs, cells, slots, vm0, k0, ⟨X, Nat.le_trans h1 hK, Nat.le_trans h2 hS, h3, h4, h5, h6, h7, h8, h9, h10, h11, fun a ha => h12 a (hsf a ha), h13, h14⟩, k⟩
/-- a step that moves the frame alone -/
theorem Hr.step (H : Hr x b Z EL K S h sf pc Ls st)
    (f : ∀ T : State, At T x.m x.c x.below → x.p.tables.exec = Jvm.exec → x.c.code = b.bytes → ∀ target, Steps x.p.tables x.e x.below (T.setTop (mkF x.m pc' Ls' st')) target → Steps x.p.tables x.e x.below (T.setTop (mkF x.m pc Ls st)) target) : Hr x b Z EL K S h sf pc' Ls' st' := by
  obtain ⟨B, T, locs, cells, slots, vm0, k0, X, k⟩ := H
  exact ⟨B, T, locs, cells, slots, vm0, k0, X, fun t q => k t (f T X.1.here B.2.1 B.2.2.1 t q)⟩
/-- a step of the library that moves the tables at the most -/
theorem Hr.same (H : Hr x b Z EL K S h sf pc Ls st)
    (f : ∀ (T : State) (locs : List Loc) (cells slots : Nat) (vm0 : Vm), Stand x.p x.l x.e b.R (x.s.setVm vm0) x.m x.args x.below x.meth x.c T locs cells slots → T.heap = h → Z.Warmed39 (x.s.setVm vm0).vm → (x.s.setVm vm0).vm.findClass b.y.cls = some x.m.cls → Bs x b Z EL →
      ∃ T', Stand x.p x.l x.e b.R (x.s.setVm vm0) x.m x.args x.below x.meth x.c T' locs cells slots ∧ T'.heap = h ∧ ∀ target, Steps x.p.tables x.e x.below (T'.setTop (mkF x.m pc' Ls' st')) target → Steps x.p.tables x.e x.below (T.setTop (mkF x.m pc Ls st)) target) : Hr x b Z EL K S h sf pc' Ls' st' := by
  obtain ⟨B, T, locs, cells, slots, vm0, k0, ⟨X, h1, h2, h3, h4, h5, h6, h7, h8, hr⟩, k⟩ := H
  obtain ⟨T', X', e', st1⟩ := f T locs cells slots vm0 X h3 h7 h8 B
  exact ⟨B, T', locs, cells, slots, vm0, k0, ⟨X', h1, h2, e', h4, h5, h6, h7, h8, hr⟩, fun t q => k t (st1 t q)⟩
/-- a step of the library that writes one slot of a cell that is the walk's -/
theorem Hr.write {a : Addr} {sl : Nat} {v : Value} (H : Hr x b Z EL K S h sf pc Ls st) (ha : a ∈ sf)
    (f : ∀ (T : State) (locs : List Loc) (cells slots : Nat) (vm0 : Vm), Stand x.p x.l x.e b.R (x.s.setVm vm0) x.m x.args x.below x.meth x.c T locs cells slots → T.heap = h → Z.Warmed39 (x.s.setVm vm0).vm → (x.s.setVm vm0).vm.findClass b.y.cls = some x.m.cls → Bs x b Z EL →
      ∃ T' h', Stand x.p x.l x.e b.R (x.s.setVm vm0) x.m x.args x.below x.meth x.c T' (locs ++ [⟨a, sl⟩]) cells slots ∧ T'.heap = h' ∧ Wr h h' a sl v ∧ ∀ target, Steps x.p.tables x.e x.below (T'.setTop (mkF x.m pc' Ls' st')) target → Steps x.p.tables x.e x.below (T.setTop (mkF x.m pc Ls st)) target) :
    ∃ h', Wr h h' a sl v ∧ Hr x b Z EL K S h' sf pc' Ls' st' := by
  obtain ⟨B, T, locs, cells, slots, vm0, k0, ⟨X, h1, h2, h3, h4, h5, h6, h7, h8, h9, h10, h11, h12, h13, h14⟩, k⟩ := H
  obtain ⟨T', h', X', e', W, st1⟩ := f T locs cells slots vm0 X h3 h7 h8 B
  have hm := h12 a ha
  have q1 := CHv.wrStep W hm.2.2.2 h9.1
  refine ⟨h', W, B, T', _, cells, slots, vm0, k0, ⟨X', h1, h2, e', Fr.snoc X' h4 hm.2.1, h5, by rw [W.size]; exact h6, h7, h8, h9.trans (CHr.wr W hm.2.2.2 h9.1), h10.wr W hm.1, Ext.ofKeep h11 (Keep.of_wr W) (allS hm.2.1 all0), fun y hy => ?_, h13, h14⟩, fun t q => k t (st1 t q)⟩
  obtain ⟨y1, y2, y3, y4⟩ := h12 y hy
  exact ⟨y1, y2, by rw [W.size]; exact y3, Safe.wr W hm.2.2.2 h9.1 y4⟩
/-- a step of the library that makes one cell -/
theorem Hr.alloc {n : Nat} {P : Heap → Prop} (H : Hr x b Z EL K S h sf pc Ls st) (hc : K + 1 ≤ b.R.cells) (hl : S + n ≤ b.R.slots) (hlt : ∀ h', P h' → h.size < h'.size)
    (f : ∀ (T : State) (locs : List Loc) (cells slots : Nat) (vm0 : Vm), Stand x.p x.l x.e b.R (x.s.setVm vm0) x.m x.args x.below x.meth x.c T locs cells slots → T.heap = h → Z.Warmed39 (x.s.setVm vm0).vm → (x.s.setVm vm0).vm.findClass b.y.cls = some x.m.cls → Bs x b Z EL → cells + 1 ≤ b.R.cells → slots + n ≤ b.R.slots →
      ∃ T' h', Stand x.p x.l x.e b.R (x.s.setVm vm0) x.m x.args x.below x.meth x.c T' locs (cells + 1) (slots + n) ∧ T'.heap = h' ∧ Ext h h' ∧ P h' ∧ ∀ target, Steps x.p.tables x.e x.below (T'.setTop (mkF x.m pc' Ls' st')) target → Steps x.p.tables x.e x.below (T.setTop (mkF x.m pc Ls st)) target) :
    ∃ h', Ext h h' ∧ P h' ∧ Hr x b Z EL (K + 1) (S + n) h' (h.size :: sf) pc' Ls' st' := by
  obtain ⟨B, T, locs, cells, slots, vm0, k0, ⟨X, h1, h2, h3, h4, h5, h6, h7, h8, h9, h10, h11, h12, h13, h14⟩, k⟩ := H
  obtain ⟨T', h', X', e', E, hp, st1⟩ := f T locs cells slots vm0 X h3 h7 h8 B (by omega) (by omega)
  refine ⟨h', E, hp, B, T', _, _, _, vm0, k0, ⟨X', by omega, by omega, e', h4, h5, Nat.le_trans h6 E.1, h7, h8, h9.trans (CHr.ext E h9.1), h10.ext E, Ext.tr h11 E, fun y hy => ?_, h13, h14⟩, fun t q => k t (st1 t q)⟩
  rcases List.mem_cons.mp hy with rfl | hy
  · exact ⟨Or.inr h10.1, h11.1, hlt h' hp, Safe.ext E h9.1 (Safe.new (Nat.le_refl _))⟩
  · obtain ⟨y1, y2, y3, y4⟩ := h12 y hy
    exact ⟨y1, y2, Nat.lt_of_lt_of_le y3 E.1, Safe.ext E h9.1 y4⟩
/-- the payer: a contract as the library's calls take it -/
theorem Ct.backS {l : Launch} {y : MethodName} {bytes : ByteArray} {maxL : Nat} {ret : Option FieldType} {rm : Room} {as' : Array Value} {nar kn : Bool} {Q : Option Value → Heap → List Addr → Prop} (C : Ct l Z EL y bytes maxL ret rm as' h sf nar kn Q)
    {p : Program} {e : Env} {R : Room} {below : List Frame} {s : State} {vm0 : Vm} {args a1 : Array Value} {len W : Nat} (hZ : Z.Warmed39 vm0) (wc : (Jvm.Cond.code y bytes maxL ret).before a0 Z = true) (wz : (Jvm.Cond.initialized y.cls).before a0 Z = true) (hf : rm.frames + 1 ≤ R.frames) (hl : W + (maxL + 11) + rm.locals ≤ R.locals)
    (hEL : EW Z a1 EL) (H : CHv Z EL vm0 h) (hE : Ext Z.heap h) (hsf : ∀ a ∈ sf, Z.heap.size ≤ a ∧ a < h.size ∧ Safe Z EL vm0 h a) (hkn : kn = true → vm0.MethodsKnown ∧ vm0.FramesKnown below) :
    BackS l R p e below (s.setVm vm0) args y len W (fun A a => a = as' ∧ A.U.heap = h ∧ A.cells + rm.cells ≤ R.cells ∧ A.slots + rm.slots ≤ R.slots)
      (fun A _ v B => ∃ (L : List Loc) (sn : List Addr), Q v B.U.heap sn ∧ Keep h B.U.heap sf ∧ (∀ a ∈ sn, (a ∈ sf ∨ h.size ≤ a) ∧ Z.heap.size ≤ a ∧ a < B.U.heap.size ∧ Safe Z EL B.U.vm B.U.heap a) ∧ Fr Z.heap.size L ∧ B.locs = A.locs ++ L ∧ B.cells = A.cells + rm.cells ∧ B.slots = A.slots + rm.slots ∧
        CHr Z EL vm0 h B.U.vm B.U.heap ∧ (nar = true → (s.setVm vm0).WarmedH B.U.vm)) :=
  BackS.of_freeWG (bytes := bytes) (maxL := maxL) (ret := ret)
    (E := fun _ first o t L k n => k = rm.cells ∧ n = rm.slots ∧ ∃ (v : Option Value) (sn : List Addr), o = .returned v ∧ Q v t.heap sn ∧ Keep first.heap t.heap sf ∧ (∀ a ∈ sn, (a ∈ sf ∨ first.heap.size ≤ a) ∧ Z.heap.size ≤ a ∧ a < t.heap.size ∧ Safe Z EL t.vm t.heap a) ∧ Fr Z.heap.size L ∧ CHr Z EL first.vm first.heap t.vm t.heap ∧ (nar = true → first.WarmedH t.vm)) (C []) hf hl
    (fun m meth c A a Y hp => have hU : Z.Warmed39 A.U.vm := wtrans (s := s.setVm vm0) hZ Y.warmed
      ⟨by show (Jvm.Cond.and _ .tt).before a A.U = true; rw [Cond.before_and, mv hU wc]; rfl, mv hU wc, mv hU wz, hp.2.2.1, hp.2.2.2⟩)
    (fun m meth c A a g mk Y hp => ⟨hp.1, wtrans (s := s.setVm vm0) hZ Y.warmed, hp.2.1, (CHv.at Y hZ hEL H).1, hE, fun z hz => ⟨(hsf z hz).1, (hsf z hz).2.1, (CHv.at Y hZ hEL H).safe (hsf z hz).2.1 (hsf z hz).2.2⟩⟩)
    (fun m meth c A a g mk Y _ hg hk => known_frames Y hg (hkn hk).1 (hkn hk).2)
    (fun _ _ _ _ ⟨v, L, sn, q1, q2, q3, q4, q5, q6, q7, q8⟩ => ⟨L, _, _, q8, rfl, rfl, v, sn, q1, q2, q3, q4, q5, q6, q7⟩)
    (fun m meth c A a g mk v t L k n Y hp _ _ ⟨e1, e2, v', sn, q1, q2, q3, q4, q5, q6, q7⟩ => by
      cases q1; subst e1 e2
      obtain ⟨-, rfl, -⟩ := hp
      exact ⟨L, sn, q2, q3, q4, q5, rfl, rfl, rfl, (CHv.at Y hZ hEL H).trans q6, fun hn => State.WarmedH.trans (t := A.U) Y.warmed (q7 hn)⟩)
/-- behind a call: from what the library hands out to where the run stands -/
theorem Hr.after {rm : Room} {sf' : List Addr} {Q : Option Value → Heap → List Addr → Prop} (B : Bs x b Z EL) {T : State} {locs : List Loc} {cells slots : Nat} {vm0 : Vm} {k0 : Nat} (X : Hx x b Z EL K S h sf T locs cells slots vm0 k0)
    (k : ∀ target, Steps x.p.tables x.e x.below (T.setTop (mkF x.m pc Ls st)) target → Steps x.p.tables x.e x.below x.B target) (sub : ∀ a ∈ sf', a ∈ sf)
    {P : Pt} (X' : Stand x.p x.l x.e b.R ((x.s.setVm vm0).setVm P.U.vm) x.m x.args x.below x.meth x.c P.U P.locs P.cells P.slots) (hS : (x.s.setVm vm0).Since P.U.vm P.U.heap.size) (hgr : T.heap.size ≤ P.U.heap.size) {v : Option Value}
    (hp : ∃ (L : List Loc) (sn : List Addr), Q v P.U.heap sn ∧ Keep h P.U.heap sf' ∧ (∀ a ∈ sn, (a ∈ sf' ∨ h.size ≤ a) ∧ Z.heap.size ≤ a ∧ a < P.U.heap.size ∧ Safe Z EL P.U.vm P.U.heap a) ∧ Fr Z.heap.size L ∧ P.locs = locs ++ L ∧ P.cells = cells + rm.cells ∧ P.slots = slots + rm.slots ∧
        CHr Z EL vm0 h P.U.vm P.U.heap ∧ (x.nar = true → (x.s.setVm vm0).WarmedH P.U.vm))
    (hst : Steps x.p.tables x.e x.below (T.setTop (mkF x.m pc Ls st)) (P.U.setTop (mkF x.m pc' Ls st'))) :
    ∃ (h' : Heap) (sn : List Addr), Q v h' sn ∧ Keep h h' sf' ∧ Hr x b Z EL (K + rm.cells) (S + rm.slots) h' (sn ++ sf) pc' Ls st' := by
  obtain ⟨X, h1, h2, h3, h4, h5, h6, h7, h8, h9, h10, h11, h12, h13, h14⟩ := X
  obtain ⟨L, sn, q1, q2, q3, q4, q5, q6, q7, q8, q9⟩ := hp
  have hsf0 : ∀ z ∈ sf', z ∈ x.sf0 ∨ x.s.heap.size ≤ z := fun z hz => (h12 z (sub z hz)).1
  refine ⟨_, sn, q1, q2, B, P.U, P.locs, P.cells, P.slots, P.U.vm, P.U.heap.size, ⟨X', by omega, by omega, rfl, by rw [q5]; exact h4.app q4, h5.trans hS (by rw [h3] at hgr; exact Nat.le_trans h6 hgr), Nat.le_refl _, State.Warmed39.trans (t := x.s.setVm vm0) h7 hS.1, (hS.1.alike.findClass _ _).trans h8, h9.trans q8, h10.trans q2 hsf0,
    Ext.ofKeep h11 q2 (fun z hz => (h12 z (sub z hz)).2.1), fun z hz => ?_, fun hn => State.WarmedH.trans (t := x.s.setVm vm0) (h13 hn) (q9 hn), fun hk => ⟨Vm.MethodsKnown.alikeC hS.1.alike (h14 hk).1, Vm.FramesKnown.alikeC hS.1.alike (h14 hk).2⟩⟩, fun t q => k t (hst.trans q)⟩
  rcases List.mem_append.mp hz with hz | hz
  · obtain ⟨z1, z2, z3, z4⟩ := q3 z hz
    refine ⟨z1.elim (hsf0 z) (fun q => Or.inr (Nat.le_trans h10.1 q)), z2, z3, z4⟩
  · obtain ⟨z1, z2, z3, z4⟩ := h12 z hz
    exact ⟨z1, z2, Nat.lt_of_lt_of_le z3 q2.1, q8.safe z3 z4⟩
end Layer
end Jvm.Pilot.@@N@@
namespace Jvm.Pilot.@@N@@
open Jvm Jvm.ClassFile Sem Op Lib Bundle Jvm.Free Jvm.Stand Jvm.LawKit Jvm.RoadKit
section Layer2
variable {x : Cx} {b : Bx} {Z : State} {EL : List (String × Nat)} {K S : Nat} {h h' : Heap} {sf : List Addr} {pc pc' : Nat} {Ls Ls' : Array Slot} {st st' : List Value} {a0 : Array Value}
/-! ### plain steps -/
theorem Hr.iloadN {k : Fin 4} {v : Int32} (H : Hr x b Z EL K S h sf pc Ls st) (hd : decode b.bytes pc = .ok (.iload_n k, 1)) (hl : Ls[k.val]? = some (.val (.int v)) := by rfl) (hpc : pc + 1 = pc' := by rfl) : Hr x b Z EL K S h sf pc' Ls (.int v :: st) := by
  subst hpc; exact H.step fun T A hx hby t q => XS.iloadN A hx rfl (hb hby hd) hl q
theorem Hr.iload {k : Nat} {v : Int32} (H : Hr x b Z EL K S h sf pc Ls st) (hd : decode b.bytes pc = .ok (.iload k, 2)) (hl : Ls[k]? = some (.val (.int v)) := by rfl) (hpc : pc + 2 = pc' := by rfl) : Hr x b Z EL K S h sf pc' Ls (.int v :: st) := by
  subst hpc; exact H.step fun T A hx hby t q => XS.iload A hx rfl (hb hby hd) hl q
theorem Hr.aloadN {k : Fin 4} {v : Value} (H : Hr x b Z EL K S h sf pc Ls st) (hd : decode b.bytes pc = .ok (.aload_n k, 1)) (hl : Ls[k.val]? = some (.val v) := by rfl) (hv : v.isRef = true := by rfl) (hpc : pc + 1 = pc' := by rfl) : Hr x b Z EL K S h sf pc' Ls (v :: st) := by
  subst hpc; exact H.step fun T A hx hby t q => XS.aloadN A hx rfl (hb hby hd) hl hv q
theorem Hr.aload {k : Nat} {v : Value} (H : Hr x b Z EL K S h sf pc Ls st) (hd : decode b.bytes pc = .ok (.aload k, 2)) (hl : Ls[k]? = some (.val v) := by rfl) (hv : v.isRef = true := by rfl) (hpc : pc + 2 = pc' := by rfl) : Hr x b Z EL K S h sf pc' Ls (v :: st) := by
  subst hpc; exact H.step fun T A hx hby t q => XS.aload A hx rfl (hb hby hd) hl hv q
theorem Hr.iconst {i : Int} {v : Int32} (H : Hr x b Z EL K S h sf pc Ls st) (hd : decode b.bytes pc = .ok (.iconst i, 1)) (hv : Int32.ofInt i = v := by first | rfl | decide) (hpc : pc + 1 = pc' := by rfl) : Hr x b Z EL K S h sf pc' Ls (.int v :: st) := by
  subst hpc hv; exact H.step fun T A hx hby t q => XS.iconst A hx rfl (hb hby hd) q
theorem Hr.bipush {i : Int} {v : Int32} (H : Hr x b Z EL K S h sf pc Ls st) (hd : decode b.bytes pc = .ok (.bipush i, 2)) (hv : (Int8.ofInt i).toInt32 = v := by first | rfl | decide) (hpc : pc + 2 = pc' := by rfl) : Hr x b Z EL K S h sf pc' Ls (.int v :: st) := by
  subst hpc hv; exact H.step fun T A hx hby t q => XS.bipush A hx rfl (hb hby hd) q
theorem Hr.sipush {i : Int} {v : Int32} (H : Hr x b Z EL K S h sf pc Ls st) (hd : decode b.bytes pc = .ok (.sipush i, 3)) (hv : (Int16.ofInt i).toInt32 = v := by first | rfl | decide) (hpc : pc + 3 = pc' := by rfl) : Hr x b Z EL K S h sf pc' Ls (.int v :: st) := by
  subst hpc hv; exact H.step fun T A hx hby t q => XS.sipush A hx rfl (hb hby hd) q
theorem Hr.aconstNull (H : Hr x b Z EL K S h sf pc Ls st) (hd : decode b.bytes pc = .ok (.aconst_null, 1)) (hpc : pc + 1 = pc' := by rfl) : Hr x b Z EL K S h sf pc' Ls (.null :: st) := by
  subst hpc; exact H.step fun T A hx hby t q => XS.aconstNull A hx rfl (hb hby hd) q
theorem Hr.iadd {u w v : Int32} (H : Hr x b Z EL K S h sf pc Ls (.int w :: .int u :: st)) (hd : decode b.bytes pc = .ok (.iadd, 1)) (hv : u + w = v := by rfl) (hpc : pc + 1 = pc' := by rfl) : Hr x b Z EL K S h sf pc' Ls (.int v :: st) := by
  subst hpc hv; exact H.step fun T A hx hby t q => XS.iadd A hx rfl (hb hby hd) rfl q
theorem Hr.isub {u w v : Int32} (H : Hr x b Z EL K S h sf pc Ls (.int w :: .int u :: st)) (hd : decode b.bytes pc = .ok (.isub, 1)) (hv : u - w = v := by rfl) (hpc : pc + 1 = pc' := by rfl) : Hr x b Z EL K S h sf pc' Ls (.int v :: st) := by
  subst hpc hv; exact H.step fun T A hx hby t q => XS.isub A hx rfl (hb hby hd) rfl q
theorem Hr.imul {u w v : Int32} (H : Hr x b Z EL K S h sf pc Ls (.int w :: .int u :: st)) (hd : decode b.bytes pc = .ok (.imul, 1)) (hv : u * w = v := by rfl) (hpc : pc + 1 = pc' := by rfl) : Hr x b Z EL K S h sf pc' Ls (.int v :: st) := by
  subst hpc hv; exact H.step fun T A hx hby t q => XS.imul A hx rfl (hb hby hd) rfl q
theorem Hr.iand {u w v : Int32} (H : Hr x b Z EL K S h sf pc Ls (.int w :: .int u :: st)) (hd : decode b.bytes pc = .ok (.iand, 1)) (hv : u &&& w = v := by rfl) (hpc : pc + 1 = pc' := by rfl) : Hr x b Z EL K S h sf pc' Ls (.int v :: st) := by
  subst hpc hv; exact H.step fun T A hx hby t q => XS.iand A hx rfl (hb hby hd) rfl q
theorem Hr.ior {u w v : Int32} (H : Hr x b Z EL K S h sf pc Ls (.int w :: .int u :: st)) (hd : decode b.bytes pc = .ok (.ior, 1)) (hv : u ||| w = v := by rfl) (hpc : pc + 1 = pc' := by rfl) : Hr x b Z EL K S h sf pc' Ls (.int v :: st) := by
  subst hpc hv; exact H.step fun T A hx hby t q => XT.ior A hx rfl (hb hby hd) rfl q
theorem Hr.ixor {u w v : Int32} (H : Hr x b Z EL K S h sf pc Ls (.int w :: .int u :: st)) (hd : decode b.bytes pc = .ok (.ixor, 1)) (hv : u ^^^ w = v := by rfl) (hpc : pc + 1 = pc' := by rfl) : Hr x b Z EL K S h sf pc' Ls (.int v :: st) := by
  subst hpc hv; exact H.step fun T A hx hby t q => XT.ixor A hx rfl (hb hby hd) rfl q
theorem Hr.ishl {u w v : Int32} (H : Hr x b Z EL K S h sf pc Ls (.int w :: .int u :: st)) (hd : decode b.bytes pc = .ok (.ishl, 1)) (hv : u <<< (w &&& 31) = v := by rfl) (hpc : pc + 1 = pc' := by rfl) : Hr x b Z EL K S h sf pc' Ls (.int v :: st) := by
  subst hpc hv; exact H.step fun T A hx hby t q => XT.ishl A hx rfl (hb hby hd) rfl q
theorem Hr.ishr {u w v : Int32} (H : Hr x b Z EL K S h sf pc Ls (.int w :: .int u :: st)) (hd : decode b.bytes pc = .ok (.ishr, 1)) (hv : u >>> (w &&& 31) = v := by rfl) (hpc : pc + 1 = pc' := by rfl) : Hr x b Z EL K S h sf pc' Ls (.int v :: st) := by
  subst hpc hv; exact H.step fun T A hx hby t q => XT.ishr A hx rfl (hb hby hd) rfl q
theorem Hr.iushr {u w v : Int32} (H : Hr x b Z EL K S h sf pc Ls (.int w :: .int u :: st)) (hd : decode b.bytes pc = .ok (.iushr, 1)) (hv : (u.toUInt32 >>> (w &&& 31).toUInt32).toInt32 = v := by rfl) (hpc : pc + 1 = pc' := by rfl) : Hr x b Z EL K S h sf pc' Ls (.int v :: st) := by
  subst hpc hv; exact H.step fun T A hx hby t q => XT.iushr A hx rfl (hb hby hd) rfl q
theorem Hr.ineg {u v : Int32} (H : Hr x b Z EL K S h sf pc Ls (.int u :: st)) (hd : decode b.bytes pc = .ok (.ineg, 1)) (hv : -u = v := by rfl) (hpc : pc + 1 = pc' := by rfl) : Hr x b Z EL K S h sf pc' Ls (.int v :: st) := by
  subst hpc hv; exact H.step fun T A hx hby t q => XS.ineg A hx rfl (hb hby hd) rfl q
theorem Hr.irem {u w v : Int32} (H : Hr x b Z EL K S h sf pc Ls (.int w :: .int u :: st)) (hd : decode b.bytes pc = .ok (.irem, 1)) (hw : w ≠ 0) (hv : u % w = v := by rfl) (hpc : pc + 1 = pc' := by rfl) : Hr x b Z EL K S h sf pc' Ls (.int v :: st) := by
  subst hpc hv; exact H.step fun T A hx hby t q => XS.irem A hx rfl (hb hby hd) rfl hw (by rw [irem_eq_mod]; exact q)
theorem Hr.idiv {u w v : Int32} (H : Hr x b Z EL K S h sf pc Ls (.int w :: .int u :: st)) (hd : decode b.bytes pc = .ok (.idiv, 1)) (hw : w ≠ 0) (hv : u / w = v := by rfl) (hpc : pc + 1 = pc' := by rfl) : Hr x b Z EL K S h sf pc' Ls (.int v :: st) := by
  subst hpc hv; exact H.step fun T A hx hby t q => XS.idiv A hx rfl (hb hby hd) rfl hw q
theorem Hr.i2c {u v : Int32} (H : Hr x b Z EL K S h sf pc Ls (.int u :: st)) (hd : decode b.bytes pc = .ok (.i2c, 1)) (hv : u.toUInt32.toUInt16.toUInt32.toInt32 = v := by rfl) (hpc : pc + 1 = pc' := by rfl) : Hr x b Z EL K S h sf pc' Ls (.int v :: st) := by
  subst hpc hv; exact H.step fun T A hx hby t q => XT.i2c A hx rfl (hb hby hd) rfl q
theorem Hr.i2b {u v : Int32} (H : Hr x b Z EL K S h sf pc Ls (.int u :: st)) (hd : decode b.bytes pc = .ok (.i2b, 1)) (hv : u.toInt8.toInt32 = v := by rfl) (hpc : pc + 1 = pc' := by rfl) : Hr x b Z EL K S h sf pc' Ls (.int v :: st) := by
  subst hpc hv; exact H.step fun T A hx hby t q => XT.i2b A hx rfl (hb hby hd) rfl q
theorem Hr.dup {v : Value} (H : Hr x b Z EL K S h sf pc Ls (v :: st)) (hd : decode b.bytes pc = .ok (.dup, 1)) (hc : v.category = 1 := by rfl) (hpc : pc + 1 = pc' := by rfl) : Hr x b Z EL K S h sf pc' Ls (v :: v :: st) := by
  subst hpc; exact H.step fun T A hx hby t q => XS.dup A hx rfl (hb hby hd) rfl hc q
theorem Hr.dupX1 {v w : Value} (H : Hr x b Z EL K S h sf pc Ls (v :: w :: st)) (hd : decode b.bytes pc = .ok (.dup_x1, 1)) (hc : v.category = 1 := by rfl) (hc' : w.category = 1 := by rfl) (hpc : pc + 1 = pc' := by rfl) : Hr x b Z EL K S h sf pc' Ls (v :: w :: v :: st) := by
  subst hpc; exact H.step fun T A hx hby t q => XT.dupX1 A hx rfl (hb hby hd) rfl hc hc' q
theorem Hr.pop {v : Value} (H : Hr x b Z EL K S h sf pc Ls (v :: st)) (hd : decode b.bytes pc = .ok (.pop, 1)) (hc : v.category = 1 := by rfl) (hpc : pc + 1 = pc' := by rfl) : Hr x b Z EL K S h sf pc' Ls st := by
  subst hpc; exact H.step fun T A hx hby t q => XT.pop A hx rfl (hb hby hd) rfl hc q
theorem Hr.istoreN {k : Fin 4} {v : Int32} (H : Hr x b Z EL K S h sf pc Ls (.int v :: st)) (hd : decode b.bytes pc = .ok (.istore_n k, 1)) (hl : storeLocals Ls k.val (.int v) = some Ls' := by rfl) (hpc : pc + 1 = pc' := by rfl) : Hr x b Z EL K S h sf pc' Ls' st := by
  subst hpc; exact H.step fun T A hx hby t q => XS.istoreN A hx rfl (hb hby hd) rfl hl q
theorem Hr.istore {k : Nat} {v : Int32} (H : Hr x b Z EL K S h sf pc Ls (.int v :: st)) (hd : decode b.bytes pc = .ok (.istore k, 2)) (hl : storeLocals Ls k (.int v) = some Ls' := by rfl) (hpc : pc + 2 = pc' := by rfl) : Hr x b Z EL K S h sf pc' Ls' st := by
  subst hpc; exact H.step fun T A hx hby t q => XS.istore A hx rfl (hb hby hd) rfl hl q
theorem Hr.astoreN {k : Fin 4} {v : Value} (H : Hr x b Z EL K S h sf pc Ls (v :: st)) (hd : decode b.bytes pc = .ok (.astore_n k, 1)) (hl : storeLocals Ls k.val v = some Ls' := by rfl) (hv : v.isRef = true := by rfl) (hpc : pc + 1 = pc' := by rfl) : Hr x b Z EL K S h sf pc' Ls' st := by
  subst hpc; exact H.step fun T A hx hby t q => XS.astoreN A hx rfl (hb hby hd) rfl hv hl q
theorem Hr.astore {k : Nat} {v : Value} (H : Hr x b Z EL K S h sf pc Ls (v :: st)) (hd : decode b.bytes pc = .ok (.astore k, 2)) (hl : storeLocals Ls k v = some Ls' := by rfl) (hv : v.isRef = true := by rfl) (hpc : pc + 2 = pc' := by rfl) : Hr x b Z EL K S h sf pc' Ls' st := by
  subst hpc; exact H.step fun T A hx hby t q => XS.astore A hx rfl (hb hby hd) rfl hv hl q
theorem Hr.iinc {k : Nat} {cst : Int} {u v : Int32} (H : Hr x b Z EL K S h sf pc Ls st) (hd : decode b.bytes pc = .ok (.iinc k cst, 3)) (hl : Ls[k]? = some (.val (.int u)) := by rfl) (hv : u + Int32.ofInt cst = v := by rfl) (hl' : storeLocals Ls k (.int v) = some Ls' := by rfl) (hpc : pc + 3 = pc' := by rfl) : Hr x b Z EL K S h sf pc' Ls' st := by
  subst hpc hv; exact H.step fun T A hx hby t q => XS.iinc A hx rfl (hb hby hd) hl hl' q
theorem Hr.goto {o : Int} (H : Hr x b Z EL K S h sf pc Ls st) (hd : decode b.bytes pc = .ok (.goto o, 3)) (hp : ((pc : Int) + o).toNat = pc' := by decide) (ho : 0 ≤ (pc : Int) + o := by decide) : Hr x b Z EL K S h sf pc' Ls st := by
  exact H.step fun T A hx hby t q => XS.goto A hx rfl (pc0 := pc) rfl (hb hby hd) ho hp q
theorem Hr.ifT {cd : ClassFile.Cond} {o : Int} {u : Int32} (H : Hr x b Z EL K S h sf pc Ls (.int u :: st)) (hd : decode b.bytes pc = .ok (.ifCond cd o, 3)) (hc : ifCond.holds cd u = true) (hp : ((pc : Int) + o).toNat = pc' := by decide) (ho : 0 ≤ (pc : Int) + o := by decide) : Hr x b Z EL K S h sf pc' Ls st := by
  exact H.step fun T A hx hby t q => XS.ifYes A hx rfl (pc0 := pc) rfl (hb hby hd) rfl hc ho hp q
theorem Hr.ifF {cd : ClassFile.Cond} {o : Int} {u : Int32} (H : Hr x b Z EL K S h sf pc Ls (.int u :: st)) (hd : decode b.bytes pc = .ok (.ifCond cd o, 3)) (hc : ifCond.holds cd u = false) (hpc : pc + 3 = pc' := by rfl) : Hr x b Z EL K S h sf pc' Ls st := by
  subst hpc; exact H.step fun T A hx hby t q => XS.ifNo A hx rfl (hb hby hd) rfl hc q
theorem Hr.icmpT {cd : ClassFile.Cond} {o : Int} {u w : Int32} (H : Hr x b Z EL K S h sf pc Ls (.int w :: .int u :: st)) (hd : decode b.bytes pc = .ok (.if_icmp cd o, 3)) (hc : if_icmp.holds cd u w = true) (hp : ((pc : Int) + o).toNat = pc' := by decide) (ho : 0 ≤ (pc : Int) + o := by decide) : Hr x b Z EL K S h sf pc' Ls st := by
  exact H.step fun T A hx hby t q => XS.icmpYes A hx rfl (pc0 := pc) rfl (hb hby hd) rfl hc ho hp q
theorem Hr.icmpF {cd : ClassFile.Cond} {o : Int} {u w : Int32} (H : Hr x b Z EL K S h sf pc Ls (.int w :: .int u :: st)) (hd : decode b.bytes pc = .ok (.if_icmp cd o, 3)) (hc : if_icmp.holds cd u w = false) (hpc : pc + 3 = pc' := by rfl) : Hr x b Z EL K S h sf pc' Ls st := by
  subst hpc; exact H.step fun T A hx hby t q => XS.icmpNo A hx rfl (hb hby hd) rfl hc q
theorem Hr.acmpT {cd : ClassFile.ACond} {o : Int} {u w : Value} (H : Hr x b Z EL K S h sf pc Ls (w :: u :: st)) (hd : decode b.bytes pc = .ok (.if_acmp cd o, 3)) (hc : XT.acmp cd u w = true) (hu : u.isRef = true := by rfl) (hw : w.isRef = true := by rfl) (hp : ((pc : Int) + o).toNat = pc' := by decide) (ho : 0 ≤ (pc : Int) + o := by decide) : Hr x b Z EL K S h sf pc' Ls st := by
  exact H.step fun T A hx hby t q => XT.acmpYes A hx rfl (pc0 := pc) rfl (hb hby hd) rfl hu hw hc ho hp q
theorem Hr.acmpF {cd : ClassFile.ACond} {o : Int} {u w : Value} (H : Hr x b Z EL K S h sf pc Ls (w :: u :: st)) (hd : decode b.bytes pc = .ok (.if_acmp cd o, 3)) (hc : XT.acmp cd u w = false) (hu : u.isRef = true := by rfl) (hw : w.isRef = true := by rfl) (hpc : pc + 3 = pc' := by rfl) : Hr x b Z EL K S h sf pc' Ls st := by
  subst hpc; exact H.step fun T A hx hby t q => XT.acmpNo A hx rfl (hb hby hd) rfl hu hw hc q
theorem Hr.ifnullT {o : Int} (H : Hr x b Z EL K S h sf pc Ls (.null :: st)) (hd : decode b.bytes pc = .ok (.ifnull o, 3)) (hp : ((pc : Int) + o).toNat = pc' := by decide) (ho : 0 ≤ (pc : Int) + o := by decide) : Hr x b Z EL K S h sf pc' Ls st := by
  exact H.step fun T A hx hby t q => XS.ifnullYes A hx rfl (pc0 := pc) rfl (hb hby hd) rfl ho hp q
theorem Hr.ifnullF {o : Int} {a : Addr} (H : Hr x b Z EL K S h sf pc Ls (.ref a :: st)) (hd : decode b.bytes pc = .ok (.ifnull o, 3)) (hpc : pc + 3 = pc' := by rfl) : Hr x b Z EL K S h sf pc' Ls st := by
  subst hpc; exact H.step fun T A hx hby t q => XS.ifnullNo A hx rfl (hb hby hd) rfl q
theorem Hr.ifnonnullT {o : Int} {a : Addr} (H : Hr x b Z EL K S h sf pc Ls (.ref a :: st)) (hd : decode b.bytes pc = .ok (.ifnonnull o, 3)) (hp : ((pc : Int) + o).toNat = pc' := by decide) (ho : 0 ≤ (pc : Int) + o := by decide) : Hr x b Z EL K S h sf pc' Ls st := by
  exact H.step fun T A hx hby t q => XT.ifnonnullYes A hx rfl (pc0 := pc) rfl (hb hby hd) rfl ho hp q
theorem Hr.ifnonnullF {o : Int} (H : Hr x b Z EL K S h sf pc Ls (.null :: st)) (hd : decode b.bytes pc = .ok (.ifnonnull o, 3)) (hpc : pc + 3 = pc' := by rfl) : Hr x b Z EL K S h sf pc' Ls st := by
  subst hpc; exact H.step fun T A hx hby t q => XT.ifnonnullNo A hx rfl (hb hby hd) rfl q
/-! ### longs -/
theorem Hr.lloadN {k : Fin 4} {v : Int64} (H : Hr x b Z EL K S h sf pc Ls st) (hd : decode b.bytes pc = .ok (.lload_n k, 1)) (hl : Ls[k.val]? = some (.val (.long v)) := by rfl) (hpc : pc + 1 = pc' := by rfl) : Hr x b Z EL K S h sf pc' Ls (.long v :: st) := by
  subst hpc; exact H.step fun T A hx hby t q => XT.lloadN A hx rfl (hb hby hd) hl q
theorem Hr.lushr {u : Int64} {w : Int32} {v : Int64} (H : Hr x b Z EL K S h sf pc Ls (.int w :: .long u :: st)) (hd : decode b.bytes pc = .ok (.lushr, 1)) (hv : XT.ushrL u w = v := by rfl) (hpc : pc + 1 = pc' := by rfl) : Hr x b Z EL K S h sf pc' Ls (.long v :: st) := by
  subst hpc hv; exact H.step fun T A hx hby t q => XT.lushr A hx rfl (hb hby hd) rfl q
theorem Hr.land {u w v : Int64} (H : Hr x b Z EL K S h sf pc Ls (.long w :: .long u :: st)) (hd : decode b.bytes pc = .ok (.land, 1)) (hv : u &&& w = v := by rfl) (hpc : pc + 1 = pc' := by rfl) : Hr x b Z EL K S h sf pc' Ls (.long v :: st) := by
  subst hpc hv; exact H.step fun T A hx hby t q => XT.land A hx rfl (hb hby hd) rfl q
theorem Hr.l2i {u : Int64} {v : Int32} (H : Hr x b Z EL K S h sf pc Ls (.long u :: st)) (hd : decode b.bytes pc = .ok (.l2i, 1)) (hv : u.toInt32 = v := by rfl) (hpc : pc + 1 = pc' := by rfl) : Hr x b Z EL K S h sf pc' Ls (.int v :: st) := by
  subst hpc hv; exact H.step fun T A hx hby t q => XT.l2i A hx rfl (hb hby hd) rfl q
/-! ### constants, fields, statics, casts -/
theorem Hr.ldcI {index : Nat} {v : Int32} (H : Hr x b Z EL K S h sf pc Ls st) (w : (Jvm.Cond.constant b.y.cls index v).before a0 Z = true) (hd : decode b.bytes pc = .ok (.ldc index, 2)) (hpc : pc + 2 = pc' := by rfl) : Hr x b Z EL K S h sf pc' Ls (.int v :: st) := by
  subst hpc
  exact H.same fun T locs cells slots vm0 X eT hZ hown B => ⟨T, X, eT, X.ldcInt B.2.1 hown (mvT hZ w) (g := mkF x.m pc Ls st) rfl (hb B.2.2.1 hd)⟩
theorem Hr.ldcL {index : Nat} {v : Int64} (H : Hr x b Z EL K S h sf pc Ls st) (w : (Jvm.Cond.constantLong b.y.cls index v).before a0 Z = true) (hd : decode b.bytes pc = .ok (.ldc2_w index, 3)) (hpc : pc + 3 = pc' := by rfl) : Hr x b Z EL K S h sf pc' Ls (.long v :: st) := by
  subst hpc
  exact H.same fun T locs cells slots vm0 X eT hZ hown B => ⟨T, X, eT, X.ldc2Long B.2.1 hown (mvT hZ w) (g := mkF x.m pc Ls st) rfl (hb B.2.2.1 hd)⟩
theorem Hr.getF {index : Nat} {O n d : String} {a : Addr} {v : Value} (H : Hr x b Z EL K S h sf pc Ls (.ref a :: st)) (w : (Jvm.Cond.fieldLink b.y.cls index O n d).before a0 Z = true) (F : Fld Z h a O n d v) (hd : decode b.bytes pc = .ok (.getfield index, 3)) (hpc : pc + 3 = pc' := by rfl) : Hr x b Z EL K S h sf pc' Ls (v :: st) := by
  subst hpc
  exact H.same fun T locs cells slots vm0 X eT hZ hown B => Jvm.RoadKit.getF X B.2.1 hZ hown (host := "") (Or.inl w) Via.refl eT F (g := mkF x.m pc Ls (.ref a :: st)) rfl rfl (hb B.2.2.1 hd)
theorem Hr.getFvia {index : Nat} {R0 O n d : String} {a : Addr} {v : Value} (H : Hr x b Z EL K S h sf pc Ls (.ref a :: st)) (w : (Jvm.Cond.fieldLink b.y.cls index R0 n d).before a0 Z = true) (via : Via Z R0 O n d) (F : Fld Z h a O n d v) (hd : decode b.bytes pc = .ok (.getfield index, 3)) (hpc : pc + 3 = pc' := by rfl) : Hr x b Z EL K S h sf pc' Ls (v :: st) := by
  subst hpc
  exact H.same fun T locs cells slots vm0 X eT hZ hown B => Jvm.RoadKit.getF X B.2.1 hZ hown (host := "") (Or.inl w) via eT F (g := mkF x.m pc Ls (.ref a :: st)) rfl rfl (hb B.2.2.1 hd)
theorem Hr.getS {index : Nat} {O n d : String} {v : Value} (H : Hr x b Z EL K S h sf pc Ls st) (w : (Jvm.Cond.fieldLink b.y.cls index O n d).before a0 Z = true) (F : Sta Z h O n d v) (hd : decode b.bytes pc = .ok (.getstatic index, 3)) (hpc : pc + 3 = pc' := by rfl) : Hr x b Z EL K S h sf pc' Ls (v :: st) := by
  subst hpc
  exact H.same fun T locs cells slots vm0 X eT hZ hown B => Jvm.RoadKit.getS (host := "") X B.2.1 hZ hown w Via.refl eT F (g := mkF x.m pc Ls st) rfl (hb B.2.2.1 hd)
theorem Hr.cast {index : Nat} {C : String} {a : Addr} (H : Hr x b Z EL K S h sf pc Ls (.ref a :: st)) (w : (Jvm.Cond.classLink b.y.cls index C).before a0 Z = true) (F : Ins Z h a C true) (hd : decode b.bytes pc = .ok (.checkcast index, 3)) (hpc : pc + 3 = pc' := by rfl) : Hr x b Z EL K S h sf pc' Ls (.ref a :: st) := by
  subst hpc
  exact H.same fun T locs cells slots vm0 X eT hZ hown B => castY X B.2.1 hZ hown w eT F (g := mkF x.m pc Ls (.ref a :: st)) rfl rfl (hb B.2.2.1 hd)
theorem Hr.inst {index : Nat} {C : String} {a : Addr} (H : Hr x b Z EL K S h sf pc Ls (.ref a :: st)) (w : (Jvm.Cond.classLink b.y.cls index C).before a0 Z = true) (F : Ins Z h a C true) (hd : decode b.bytes pc = .ok (.instanceof index, 3)) (hpc : pc + 3 = pc' := by rfl) : Hr x b Z EL K S h sf pc' Ls (.int 1 :: st) := by
  subst hpc
  exact H.same fun T locs cells slots vm0 X eT hZ hown B => instY X B.2.1 hZ hown w eT F (g := mkF x.m pc Ls (.ref a :: st)) rfl rfl (hb B.2.2.1 hd)
theorem Hr.initO {index : Nat} {a : Addr} (H : Hr x b Z EL K S h sf pc Ls (.ref a :: st)) (w1 : (Jvm.Cond.methodLink b.y.cls index Lib.objectInit).before a0 Z = true) (w2 : (Jvm.Cond.instanceMethod Lib.objectInit).before a0 Z = true) (w3 : (Jvm.Cond.code Lib.objectInit ⟨#[0xb1]⟩ 1 none).before a0 Z = true)
    (hd : decode b.bytes pc = .ok (.invokespecial index, 3)) (hLs : Ls.size = b.maxL := by rfl) (hf : 1 ≤ b.R.frames := by decide) {Wr : Nat} (hW : (st.map fun v => v.category).sum = Wr := by rfl) (hl : Wr + 12 ≤ b.R.locals := by decide) (hpc : pc + 3 = pc' := by rfl) : Hr x b Z EL K S h sf pc' Ls st := by
  subst hpc hW
  exact H.same fun T locs cells slots vm0 X eT hZ hown B => Jvm.RoadKit.initO X B.2.1 hZ hown w1 w2 w3 eT (g := mkF x.m pc Ls (.ref a :: st)) rfl (hLs.trans B.2.2.2.1.symm) rfl (hb B.2.2.1 hd) hf (W := (st.map fun v => v.category).sum) (by show 2 * 0 + _ ≤ _; omega) hl
theorem Hr.putF {index kk : Nat} {O n d C : String} {ty : FieldType} {a : Addr} {v old : Value} (H : Hr x b Z EL K S h sf pc Ls (v :: .ref a :: st)) (ha : a ∈ sf) (w : (Jvm.Cond.fieldLink b.y.cls index O n d).before a0 Z = true) (F : Fld Z h a O n d old) (E : Exa Z h a C)
    (L : (Jvm.Cond.lays C O n d).before a0 Z = true ∨ ((Jvm.Cond.laysFinal C O n d).before a0 Z = true ∧ b.y.cls = O ∧ b.y.name = "<init>")) (wi : (Jvm.Cond.instantiable C kk).before a0 Z = true) (hd : decode b.bytes pc = .ok (.putfield index, 3))
    (hty : parseFieldDescriptor d = some ty := by decide +kernel) (hn : narrow ty v = v := by rfl) (hf : fits ty v = true := by rfl) (hpc : pc + 3 = pc' := by rfl) :
    ∃ h', Wr h h' a (Jvm.RoadKit.slotOf Z O n d) v ∧ Hr x b Z EL K S h' sf pc' Ls st := by
  subst hpc
  exact H.write ha fun T locs cells slots vm0 X eT hZ hown B => Jvm.RoadKit.putF X B.2.1 hZ hown (host := "") (Or.inl w) Via.refl eT F E (L.imp id fun q => ⟨q.1, q.2.1, B.2.2.2.2.2.2.trans q.2.2⟩) wi hty hn hf (g := mkF x.m pc Ls (v :: .ref a :: st)) rfl rfl (hb B.2.2.1 hd)
theorem Hr.new {index n : Nat} {C : String} (H : Hr x b Z EL K S h sf pc Ls st) (w : (Jvm.Cond.classLink b.y.cls index C).before a0 Z = true) (wi : (Jvm.Cond.instantiable C n).before a0 Z = true) (wz : (Jvm.Cond.initialized C).before a0 Z = true) (hd : decode b.bytes pc = .ok (.new index, 3))
    (hc : K + 1 ≤ b.R.cells := by decide) (hl : S + n ≤ b.R.slots := by decide) (hpc : pc + 3 = pc' := by rfl) :
    ∃ h', Ext h h' ∧ (Exa Z h' h.size C ∧ (∀ {O nm d : String} {ty : FieldType}, Laid Z a0 C O nm d → parseFieldDescriptor d = some ty → Fld Z h' h.size O nm d (defaultValue ty)) ∧ Unt h' h.size) ∧ Hr x b Z EL (K + 1) (S + n) h' (h.size :: sf) pc' Ls (.ref h.size :: st) := by
  subst hpc
  refine H.alloc hc hl (P := fun h' => Exa Z h' h.size C ∧ (∀ {O nm d : String} {ty : FieldType}, Laid Z a0 C O nm d → parseFieldDescriptor d = some ty → Fld Z h' h.size O nm d (defaultValue ty)) ∧ Unt h' h.size) (fun h' q => q.1.lt) fun T locs cells slots vm0 X eT hZ hown B hc' hl' => ?_
  obtain ⟨T', h', X', e', E, A, D, U, st1⟩ := newO X B.2.1 hZ hown w wi wz eT (g := mkF x.m pc Ls st) rfl (hb B.2.2.1 hd) hc' hl'
  exact ⟨T', h', X', e', E, ⟨A, D, U⟩, st1⟩
/-! ### ends -/
theorem Hr.fin {Q : Option Value → Heap → List Addr → Prop} {v : Value} {t : FieldType} {i : Instr} {sn : List Addr} (H : Hr x b Z EL K S h sf pc Ls (v :: st)) (hd : decode b.bytes pc = .ok (i, 1)) (hret : b.ret = some t) (hn : narrow t v = v)
    (hi : (i = .ireturn ∧ (t = .int ∨ t = .boolean ∨ t = .byte ∨ t = .char ∨ t = .short) ∧ ∃ z, v = .int z) ∨ (i = .lreturn ∧ t = .long ∧ ∃ z, v = .long z) ∨ (i = .dreturn ∧ t = .double ∧ ∃ z, v = .double z) ∨ (i = .freturn ∧ t = .float ∧ ∃ z, v = .float z) ∨ (i = .areturn ∧ t.isReference = true ∧ v.isRef = true))
    (hK : K ≤ b.R.cells) (hS : S ≤ b.R.slots) (hsn : ∀ a ∈ sn, a ∈ sf) (q : Q (some v) h sn) : Ends x b Z EL Q := by
  obtain ⟨B, T, locs, cells, slots, vm0, k0, ⟨X, h1, h2, h3, h4, h5, h6, h7, h8, h9, h10, h11, h12, h13, h14⟩, k⟩ := H
  have A := CHv.at X h7 B.1.choose_spec h9.1
  obtain ⟨fs, hr, hrun, hended, hW⟩ := (X.mono (Nat.le_trans h1 hK) (Nat.le_trans h2 hS)).leaveW h5 (by rw [h3]; exact h6) (v := some v) (fun z => by rw [B.2.2.2.2.1, hret] at z; cases z) B.2.2.2.2.2.1
  refine ⟨_, _, k _ (retOut X B.2.1 (t := t) (by rw [B.2.2.2.2.1]; exact hret) hn hi (hb B.2.2.1 hd) hr), hrun, hended, some v, locs, sn, rfl, ?_, ?_, fun z hz => ?_, h4, ?_, fun hn => State.WarmedH.trans (t := x.s.setVm vm0) (h13 hn) X.warmed, hW⟩
  · show Q (some v) T.heap sn; rw [h3]; exact q
  · show Keep x.s.heap T.heap x.sf0; rw [h3]; exact h10
  · obtain ⟨z1, z2, z3, z4⟩ := h12 z (hsn z hz)
    refine ⟨z1, z2, ?_, ?_⟩
    · show z < T.heap.size; rw [h3]; exact z3
    · show Safe Z EL T.vm T.heap z; rw [h3]; exact A.safe z3 z4
  · show CHr Z EL x.s.vm x.s.heap T.vm T.heap; rw [h3]; exact h9.trans A
theorem Hr.finN {Q : Option Value → Heap → List Addr → Prop} {sn : List Addr} (H : Hr x b Z EL K S h sf pc Ls []) (hd : decode b.bytes pc = .ok (.return_, 1)) (hret : b.ret = none)
    (hK : K ≤ b.R.cells) (hS : S ≤ b.R.slots) (hsn : ∀ a ∈ sn, a ∈ sf) (q : Q none h sn) : Ends x b Z EL Q := by
  obtain ⟨B, T, locs, cells, slots, vm0, k0, ⟨X, h1, h2, h3, h4, h5, h6, h7, h8, h9, h10, h11, h12, h13, h14⟩, k⟩ := H
  have A := CHv.at X h7 B.1.choose_spec h9.1
  obtain ⟨fs, hr, hrun, hended, hW⟩ := (X.mono (Nat.le_trans h1 hK) (Nat.le_trans h2 hS)).leaveW h5 (by rw [h3]; exact h6) (v := none) (fun _ => rfl) B.2.2.2.2.2.1
  refine ⟨_, _, k _ (X.returnOut B.2.1 (by rw [B.2.2.2.2.1]; exact hret) (hb B.2.2.1 hd) hr), hrun, hended, none, locs, sn, rfl, ?_, ?_, fun z hz => ?_, h4, ?_, fun hn => State.WarmedH.trans (t := x.s.setVm vm0) (h13 hn) X.warmed, hW⟩
  · show Q none T.heap sn; rw [h3]; exact q
  · show Keep x.s.heap T.heap x.sf0; rw [h3]; exact h10
  · obtain ⟨z1, z2, z3, z4⟩ := h12 z (hsn z hz)
    refine ⟨z1, z2, ?_, ?_⟩
    · show z < T.heap.size; rw [h3]; exact z3
    · show Safe Z EL T.vm T.heap z; rw [h3]; exact A.safe z3 z4
  · show CHr Z EL x.s.vm x.s.heap T.vm T.heap; rw [h3]; exact h9.trans A
theorem Hr.finI {Q : Option Value → Heap → List Addr → Prop} {v : Int32} {sn : List Addr} (H : Hr x b Z EL K S h sf pc Ls (.int v :: st)) (hd : decode b.bytes pc = .ok (.ireturn, 1)) (q : Q (some (.int v)) h sn) (hsn : ∀ a ∈ sn, a ∈ sf) (hret : b.ret = some .int := by rfl) (hK : K ≤ b.R.cells := by decide) (hS : S ≤ b.R.slots := by decide) : Ends x b Z EL Q :=
  H.fin hd hret rfl (Or.inl ⟨rfl, Or.inl rfl, _, rfl⟩) hK hS hsn q
theorem Hr.finZ {Q : Option Value → Heap → List Addr → Prop} {v : Int32} {t : FieldType} {sn : List Addr} (H : Hr x b Z EL K S h sf pc Ls (.int v :: st)) (hd : decode b.bytes pc = .ok (.ireturn, 1)) (hn : narrow t (.int v) = .int v) (q : Q (some (.int v)) h sn) (hsn : ∀ a ∈ sn, a ∈ sf) (hret : b.ret = some t := by rfl) (ht : t = .int ∨ t = .boolean ∨ t = .byte ∨ t = .char ∨ t = .short := by simp) (hK : K ≤ b.R.cells := by decide) (hS : S ≤ b.R.slots := by decide) : Ends x b Z EL Q :=
  H.fin hd hret hn (Or.inl ⟨rfl, ht, _, rfl⟩) hK hS hsn q
theorem Hr.finA {Q : Option Value → Heap → List Addr → Prop} {v : Value} {t : FieldType} {sn : List Addr} (H : Hr x b Z EL K S h sf pc Ls (v :: st)) (hd : decode b.bytes pc = .ok (.areturn, 1)) (q : Q (some v) h sn) (hsn : ∀ a ∈ sn, a ∈ sf) (hv : v.isRef = true := by rfl) (hret : b.ret = some t := by rfl) (ht : t.isReference = true := by rfl) (hK : K ≤ b.R.cells := by decide) (hS : S ≤ b.R.slots := by decide) : Ends x b Z EL Q :=
  H.fin hd hret (by rcases ref_cases hv with rfl | ⟨a, rfl⟩ <;> cases t <;> first | rfl | cases ht) (Or.inr (Or.inr (Or.inr (Or.inr ⟨rfl, ht, hv⟩)))) hK hS hsn q
/-! ### calls -/
theorem Hr.callS {y : MethodName} {bytes : ByteArray} {maxL : Nat} {ret : Option FieldType} {rm : Room} {as' : Array Value} {sf' : List Addr} {Q : Option Value → Heap → List Addr → Prop} {index : Nat} {argsL rest : List Value} {ps : List FieldType} {rt : Option FieldType}
    (H : Hr x b Z EL K S h sf pc Ls st) (C : Ct x.l Z EL y bytes maxL ret rm as' h sf' x.nar x.kn Q) (sub : ∀ a ∈ sf', a ∈ sf)
    (w1 : (Jvm.Cond.methodLink b.y.cls index y).before a0 Z = true) (w2 : (Jvm.Cond.static y).before a0 Z = true) (w3 : (Jvm.Cond.initialized y.cls).before a0 Z = true) (w4 : (Jvm.Cond.code y bytes maxL ret).before a0 Z = true)
    (hd : decode b.bytes pc = .ok (.invokestatic index, 3)) (hp : parseMethodDescriptor y.desc = some ⟨ps, rt⟩) (hst : st = argsL.reverse ++ rest) (has : argsL.toArray = as' := by rfl) (hl2 : argsL.length = ps.length := by rfl) (hy : y.cls ≠ "java/lang/invoke/MethodHandle" ∧ y.cls ≠ "java/lang/invoke/VarHandle" := by decide)
    (hf : rm.frames + 1 ≤ b.R.frames := by decide) {Wr : Nat} (hW : (rest.map fun v => v.category).sum = Wr := by rfl) (hl : Wr + (maxL + 11) + rm.locals ≤ b.R.locals := by decide) (hc : K + rm.cells ≤ b.R.cells := by decide) (hs : S + rm.slots ≤ b.R.slots := by decide) (hLs : Ls.size = b.maxL := by rfl) (hpc : pc + 3 = pc' := by rfl) :
    ∃ (v : Option Value) (h' : Heap) (sn : List Addr), Q v h' sn ∧ Keep h h' sf' ∧ Hr x b Z EL (K + rm.cells) (S + rm.slots) h' (sn ++ sf) pc' Ls (v.toList ++ rest) := by
  subst has hpc hW
  obtain ⟨B, T, locs, cells, slots, vm0, k0, X, k⟩ := H
  have X2 := X
  obtain ⟨X1, h1, h2, h3, h4, h5, h6, h7, h8, h9, h10, h11, h12, h13, h14⟩ := X2
  obtain ⟨v, vm₁, P, -, X', hS, hgr, hp', hsteps⟩ := callSS X1 B.2.1 (own := b.y.cls) h8 (mvT h7 w1) (mvT h7 w2) (mvT h7 w3) (mvT h7 w4) hy
    (C.backS (W := (rest.map fun v => v.category).sum) h7 w4 w3 hf hl B.1.choose_spec h9.1 h11 (fun z hz => (h12 z (sub z hz)).2) h14)
    (g := mkF x.m pc Ls st) rfl (hLs.trans B.2.2.2.1.symm) (argsL := argsL) (rest := rest) (lenOf hp hl2) hst (by show 2 * 0 + _ ≤ _; omega) (hb B.2.2.1 hd) (fun vm₁ _ => ⟨rfl, h3, by show cells + _ ≤ _; omega, by show slots + _ ≤ _; omega⟩)
  obtain ⟨h', sn, r1, r2, r3⟩ := Hr.after (rm := rm) (sf' := sf') (Q := Q) B X k sub X' hS hgr hp' hsteps
  exact ⟨v, h', sn, r1, r2, r3⟩
theorem Hr.callI {y : MethodName} {bytes : ByteArray} {maxL : Nat} {rm : Room} {as' : Array Value} {sf' : List Addr} {Q : Option Value → Heap → List Addr → Prop} {index : Nat} {a : Addr} {argsL rest : List Value} {ps : List FieldType} {rt : Option FieldType}
    (H : Hr x b Z EL K S h sf pc Ls st) (C : Ct x.l Z EL y bytes maxL none rm as' h sf' x.nar x.kn Q) (sub : ∀ a ∈ sf', a ∈ sf)
    (w1 : (Jvm.Cond.methodLink b.y.cls index y).before a0 Z = true) (w2 : (Jvm.Cond.instanceMethod y).before a0 Z = true) (w3 : (Jvm.Cond.initialized y.cls).before a0 Z = true) (w4 : (Jvm.Cond.code y bytes maxL none).before a0 Z = true)
    (hd : decode b.bytes pc = .ok (.invokespecial index, 3)) (hp : parseMethodDescriptor y.desc = some ⟨ps, rt⟩) (hst : st = argsL.reverse ++ .ref a :: rest) (has : (Value.ref a :: argsL).toArray = as' := by rfl) (hl2 : argsL.length = ps.length := by rfl) (hy1 : y.name = "<init>" := by rfl) (hy : y.cls ≠ "java/lang/invoke/MethodHandle" ∧ y.cls ≠ "java/lang/invoke/VarHandle" := by decide)
    (hf : rm.frames + 1 ≤ b.R.frames := by decide) {Wr : Nat} (hW : (rest.map fun v => v.category).sum = Wr := by rfl) (hl : Wr + (maxL + 11) + rm.locals ≤ b.R.locals := by decide) (hc : K + rm.cells ≤ b.R.cells := by decide) (hs : S + rm.slots ≤ b.R.slots := by decide) (hLs : Ls.size = b.maxL := by rfl) (hpc : pc + 3 = pc' := by rfl) :
    ∃ (v : Option Value) (h' : Heap) (sn : List Addr), Q v h' sn ∧ Keep h h' sf' ∧ Hr x b Z EL (K + rm.cells) (S + rm.slots) h' (sn ++ sf) pc' Ls (v.toList ++ rest) := by
  subst has hpc hW
  obtain ⟨B, T, locs, cells, slots, vm0, k0, X, k⟩ := H
  have X2 := X
  obtain ⟨X1, h1, h2, h3, h4, h5, h6, h7, h8, h9, h10, h11, h12, h13, h14⟩ := X2
  obtain ⟨v, vm₁, P, -, X', hS, hgr, hp', hsteps⟩ := X1.specialBackS B.2.1 hy1 h8 (mvT h7 w1) (mvT h7 w2) (mvT h7 w4) hy
    (C.backS (W := (rest.map fun v => v.category).sum) h7 w4 w3 hf hl B.1.choose_spec h9.1 h11 (fun z hz => (h12 z (sub z hz)).2) h14)
    (g := mkF x.m pc Ls st) rfl (hLs.trans B.2.2.2.1.symm) (Steps.refl _) (a := a) (argsL := argsL) (rest := rest) (lenOf hp hl2) hst (by show 2 * 0 + _ ≤ _; omega) (hb B.2.2.1 hd) (fun vm₁ _ => ⟨rfl, h3, by show cells + _ ≤ _; omega, by show slots + _ ≤ _; omega⟩)
  obtain ⟨h', sn, r1, r2, r3⟩ := Hr.after (rm := rm) (sf' := sf') (Q := Q) B X k sub X' hS hgr hp' hsteps
  exact ⟨v, h', sn, r1, r2, r3⟩
theorem notFace_by {s : State} {args : Array Value} {C : String} {y y' : MethodName} (ws : (Jvm.Cond.selects C y' y').before args s = true) (hc : y'.cls = y.cls) : NotFace s y := fun r0 h0 => by
  obtain ⟨c2, r2, m2, -, -, q3, -, kP, hkP, hkPi⟩ := Cond.selects_spec ws
  have h1 := findClass_of_methodNamed h0
  have h2 := findClass_of_methodNamed q3
  rw [hc, h1] at h2
  have e : r0.cls = m2.cls := Option.some.inj h2
  rw [← e] at hkP
  exact ⟨kP, hkP, hkPi⟩
theorem Hr.callV {y y' z : MethodName} {bytes : ByteArray} {maxL : Nat} {ret : Option FieldType} {rm : Room} {as' : Array Value} {sf' : List Addr} {Q : Option Value → Heap → List Addr → Prop} {index : Nat} {a : Addr} {cls cls' : String} {argsL rest : List Value} {ps : List FieldType} {rt : Option FieldType}
    (H : Hr x b Z EL K S h sf pc Ls st) (C : Ct x.l Z EL z bytes maxL ret rm as' h sf' x.nar x.kn Q) (sub : ∀ a ∈ sf', a ∈ sf) (E : Exa Z h a cls)
    (w1 : (Jvm.Cond.methodLink b.y.cls index y).before a0 Z = true) (w2 : (Jvm.Cond.declares y).before a0 Z = true) (wn : (Jvm.Cond.selects cls' y' y').before a0 Z = true) (ws : (Jvm.Cond.selects cls y z).before a0 Z = true) (wi : (Jvm.Cond.instanceMethod z).before a0 Z = true) (w3 : (Jvm.Cond.initialized z.cls).before a0 Z = true) (w4 : (Jvm.Cond.code z bytes maxL ret).before a0 Z = true)
    (hd : decode b.bytes pc = .ok (.invokevirtual index, 3)) (hp : parseMethodDescriptor y.desc = some ⟨ps, rt⟩) (hst : st = argsL.reverse ++ .ref a :: rest) (hyc : y'.cls = y.cls := by rfl) (has : (Value.ref a :: argsL).toArray = as' := by rfl) (hl2 : argsL.length = ps.length := by rfl) (hy : y.cls ≠ "java/lang/invoke/MethodHandle" ∧ y.cls ≠ "java/lang/invoke/VarHandle" := by decide)
    (hf : rm.frames + 1 ≤ b.R.frames := by decide) {Wr : Nat} (hW : (rest.map fun v => v.category).sum = Wr := by rfl) (hl : Wr + (maxL + 11) + rm.locals ≤ b.R.locals := by decide) (hc : K + rm.cells ≤ b.R.cells := by decide) (hs : S + rm.slots ≤ b.R.slots := by decide) (hLs : Ls.size = b.maxL := by rfl) (hpc : pc + 3 = pc' := by rfl) :
    ∃ (v : Option Value) (h' : Heap) (sn : List Addr), Q v h' sn ∧ Keep h h' sf' ∧ Hr x b Z EL (K + rm.cells) (S + rm.slots) h' (sn ++ sf) pc' Ls (v.toList ++ rest) := by
  subst has hpc hW
  obtain ⟨B, T, locs, cells, slots, vm0, k0, X, k⟩ := H
  have X2 := X
  obtain ⟨X1, h1, h2, h3, h4, h5, h6, h7, h8, h9, h10, h11, h12, h13, h14⟩ := X2
  obtain ⟨cB, kB, i1, i2, i3⟩ := isOf (s := x.s.setVm vm0) (T := T) h7 h3 E
  obtain ⟨v, vm₁, P, -, X', hS, hgr, hp', hsteps⟩ := X1.virtualBackS B.2.1 (y := y) (z := z) h8 (mvT h7 w1) (mvT h7 w2) (notFace_by (args := #[]) (mvT h7 wn) hyc) (mvT h7 ws) (mvT h7 wi) hy
    (C.backS (W := (rest.map fun v => v.category).sum) h7 w4 w3 hf hl B.1.choose_spec h9.1 h11 (fun z hz => (h12 z (sub z hz)).2) h14) i1 i3
    (g := mkF x.m pc Ls st) rfl (hLs.trans B.2.2.2.1.symm) (Steps.refl _) (argsL := argsL) (rest := rest) (lenOf hp hl2) hst (by show 2 * 0 + _ ≤ _; omega) (hb B.2.2.1 hd) (fun vm₁ _ => ⟨rfl, h3, by show cells + _ ≤ _; omega, by show slots + _ ≤ _; omega⟩)
  obtain ⟨h', sn, r1, r2, r3⟩ := Hr.after (rm := rm) (sf' := sf') (Q := Q) B X k sub X' hS hgr hp' hsteps
  exact ⟨v, h', sn, r1, r2, r3⟩
end Layer2
end Jvm.Pilot.@@N@@
namespace Jvm.Pilot.@@N@@
open Jvm Jvm.ClassFile Sem Op Lib Bundle Jvm.Free Jvm.Stand Jvm.LawKit Jvm.RoadKit
section Layer3
variable {x : Cx} {b : Bx} {Z : State} {EL : List (String × Nat)} {K S : Nat} {h h' : Heap} {sf : List Addr} {pc pc' : Nat} {Ls Ls' : Array Slot} {st st' : List Value} {a0 : Array Value}
/-- an array and all that it holds -/
def Ar (Z : State) (h : Heap) (a : Addr) (ty : FieldType) (vs : List Value) : Prop := ∃ c : Cell, Arr Z h a c ty ∧ c.slots.toList = vs ∧ vs.length < 2147483648
variable {a d : Addr} {ty : FieldType} {vs : List Value} {ws : List Addr} {sl : Nat} {v : Value}
theorem neN {p q : Addr} (h : @Ne Nat p q) : p ≠ q := h
theorem exa_lt {C : String} (F : Exa Z h a C) : h.size > a := F.lt
theorem fld_lt {C n d : String} (F : Fld Z h a C n d v) : h.size > a := F.lt
theorem Ar.lt (F : Ar Z h a ty vs) : h.size > a := by obtain ⟨c, A, -⟩ := F; exact A.lt
theorem Ar.len (F : Ar Z h a ty vs) : vs.length < 2147483648 := by obtain ⟨c, A, -, q⟩ := F; exact q
theorem Ar.ext (F : Ar Z h a ty vs) (E : Ext h h') : Ar Z h' a ty vs := by obtain ⟨c, A, r⟩ := F; exact ⟨c, A.ext E, r⟩
theorem Ar.keep (F : Ar Z h a ty vs) (K : Keep h h' ws) (q : a ∉ ws) : Ar Z h' a ty vs := by obtain ⟨c, A, r⟩ := F; exact ⟨c, ⟨K.2.1 a c A.1 q, A.2⟩, r⟩
theorem Ar.other (F : Ar Z h a ty vs) (W : Wr h h' d sl v) (q : a ≠ d) : Ar Z h' a ty vs := by obtain ⟨c, A, r⟩ := F; exact ⟨c, A.other W q, r⟩
theorem Ar.set (F : Ar Z h a ty vs) (W : Wr h h' a sl v) : Ar Z h' a ty (vs.set sl v) := by
  obtain ⟨c, A, r1, r2⟩ := F
  exact ⟨_, A.same W, by subst r1; simp [Cell.setSlot], by simpa using r2⟩
theorem Ar.of_new {k : ClassId} {n : Int32} (A : Arr Z h a (newA k ty n) ty) (hn : ¬ n < 0) : Ar Z h a ty (List.replicate n.toNatClampNeg (defaultValue ty)) :=
  ⟨_, A, by simp [newA], by have := (back32 hn).2; simpa using this⟩
theorem Ar.of_arv {k : ClassId} {z : Int32} {dv : Value} (F : Arv Z h a k ty z vs dv) (hz : z.toNatClampNeg = vs.length) : Ar Z h a ty vs := by
  obtain ⟨c, A, -, r2, r3, r4, -⟩ := F
  refine ⟨c, A, ?_, by have := (back32 r3).2; omega⟩
  apply List.ext_getElem?
  intro i
  by_cases hi : i < vs.length
  · have := r4 i (by omega)
    rw [Array.getElem?_toList, this]
    simp [List.getD, hi]
  · rw [List.getElem?_eq_none (by rw [Array.length_toList]; omega), List.getElem?_eq_none (by omega)]
theorem Ar.at {c : Cell} {i : Nat} {j : Int32} (hc : c.slots.toList = vs) (hl : vs.length < 2147483648) (hj : j = Int32.ofNat i) (hv : vs[i]? = some v) : ¬ (j < 0 ∨ c.slots.size ≤ j.toNatClampNeg) ∧ j.toNatClampNeg = i ∧ c.slots[j.toNatClampNeg]? = some v := by
  obtain ⟨hi, -⟩ := List.getElem?_eq_some_iff.mp hv
  have hs : c.slots.size = vs.length := by rw [← hc, Array.length_toList]
  have h2 : j.toNatClampNeg = i := clamp_of hj (by omega)
  exact ⟨by rw [hs]; exact within hj hi (by omega), h2, by rw [h2, ← Array.getElem?_toList, hc]; exact hv⟩
theorem Hr.arraylength {n : Int32} (H : Hr x b Z EL K S h sf pc Ls (.ref a :: st)) (A : Ar Z h a ty vs) (hd : decode b.bytes pc = .ok (.arraylength, 1)) (hn : Int32.ofNat vs.length = n := by rfl) (hpc : pc + 1 = pc' := by rfl) : Hr x b Z EL K S h sf pc' Ls (.int n :: st) := by
  subst hpc hn
  obtain ⟨c, A1, r1, r2⟩ := A
  refine H.same fun T locs cells slots vm0 X eT hZ hown B => ⟨T, X, eT, fun t q => X.arraylength B.2.1 (cell := c) (ty := ty) (by rw [eT]; exact A1.1) (State.isArrayOf_alike hZ.alike A1.2.1) (g := mkF x.m pc Ls (.ref a :: st)) rfl rfl (hb B.2.2.1 hd) t ?_⟩
  have e : c.slots.size.toInt32 = Int32.ofNat vs.length := by rw [← r1, Array.length_toList]
  rw [e]; exact q
theorem Hr.caload {i : Nat} {j : Int32} (H : Hr x b Z EL K S h sf pc Ls (.int j :: .ref a :: st)) (A : Ar Z h a .char vs) (hd : decode b.bytes pc = .ok (.caload, 1)) (hj : j = Int32.ofNat i) (hv : vs[i]? = some v) (hpc : pc + 1 = pc' := by rfl) : Hr x b Z EL K S h sf pc' Ls (v :: st) := by
  subst hpc
  obtain ⟨c, A1, r1, r2⟩ := A
  obtain ⟨q1, q2, q3⟩ := Ar.at r1 r2 hj hv
  exact H.same fun T locs cells slots vm0 X eT hZ hown B => ⟨T, X, eT, fun t q => X.caload B.2.1 (cell := c) (by rw [eT]; exact A1.1) (State.isArrayOf_alike hZ.alike A1.2.1) A1.2.2 q1 q3 (g := mkF x.m pc Ls (.int j :: .ref a :: st)) rfl rfl (hb B.2.2.1 hd) t q⟩
theorem Hr.baload {i : Nat} {j : Int32} (H : Hr x b Z EL K S h sf pc Ls (.int j :: .ref a :: st)) (A : Ar Z h a .byte vs) (hd : decode b.bytes pc = .ok (.baload, 1)) (hj : j = Int32.ofNat i) (hv : vs[i]? = some v) (hpc : pc + 1 = pc' := by rfl) : Hr x b Z EL K S h sf pc' Ls (v :: st) := by
  subst hpc
  obtain ⟨c, A1, r1, r2⟩ := A
  obtain ⟨q1, q2, q3⟩ := Ar.at r1 r2 hj hv
  exact H.same fun T locs cells slots vm0 X eT hZ hown B => ⟨T, X, eT, fun t q => X.baloadBytes B.2.1 (cell := c) (by rw [eT]; exact A1.1) (State.isArrayOf_alike hZ.alike A1.2.1) A1.2.2 q1 q3 (g := mkF x.m pc Ls (.int j :: .ref a :: st)) rfl rfl (hb B.2.2.1 hd) t q⟩
theorem Hr.iaload {i : Nat} {j : Int32} (H : Hr x b Z EL K S h sf pc Ls (.int j :: .ref a :: st)) (A : Ar Z h a .int vs) (hd : decode b.bytes pc = .ok (.iaload, 1)) (hj : j = Int32.ofNat i) (hv : vs[i]? = some v) (hpc : pc + 1 = pc' := by rfl) : Hr x b Z EL K S h sf pc' Ls (v :: st) := by
  subst hpc
  obtain ⟨c, A1, r1, r2⟩ := A
  obtain ⟨q1, q2, q3⟩ := Ar.at r1 r2 hj hv
  exact H.same fun T locs cells slots vm0 X eT hZ hown B => ⟨T, X, eT, fun t q => X.iaload B.2.1 (cell := c) (by rw [eT]; exact A1.1) (State.isArrayOf_alike hZ.alike A1.2.1) A1.2.2 q1 q3 (g := mkF x.m pc Ls (.int j :: .ref a :: st)) rfl rfl (hb B.2.2.1 hd) t q⟩
theorem Hr.aaload {i : Nat} {j : Int32} (H : Hr x b Z EL K S h sf pc Ls (.int j :: .ref a :: st)) (A : Ar Z h a ty vs) (hd : decode b.bytes pc = .ok (.aaload, 1)) (hj : j = Int32.ofNat i) (hv : vs[i]? = some v) (hty : ty.isReference = true := by rfl) (hpc : pc + 1 = pc' := by rfl) : Hr x b Z EL K S h sf pc' Ls (v :: st) := by
  subst hpc
  obtain ⟨c, A1, r1, r2⟩ := A
  obtain ⟨q1, q2, q3⟩ := Ar.at r1 r2 hj hv
  exact H.same fun T locs cells slots vm0 X eT hZ hown B => ⟨T, X, eT, fun t q => X.aaload B.2.1 (cell := c) (by rw [eT]; exact A1.1) (State.isArrayOf_alike hZ.alike A1.2.1) hty A1.2.2 q1 q3 (g := mkF x.m pc Ls (.int j :: .ref a :: st)) rfl rfl (hb B.2.2.1 hd) t q⟩
theorem Hr.castore {i : Nat} {j u w : Int32} (H : Hr x b Z EL K S h sf pc Ls (.int u :: .int j :: .ref a :: st)) (ha : a ∈ sf) (A : Ar Z h a .char vs) (hd : decode b.bytes pc = .ok (.castore, 1)) (hj : j = Int32.ofNat i) (hi : i < vs.length) (hw : nar .char u = w := by rfl) (hpc : pc + 1 = pc' := by rfl) :
    ∃ h', Wr h h' a i (.int w) ∧ Hr x b Z EL K S h' sf pc' Ls st := by
  subst hpc hw
  obtain ⟨c, A1, r1, r2⟩ := A
  obtain ⟨q1, q2, q3⟩ := Ar.at r1 r2 hj (List.getElem?_eq_getElem hi)
  rw [← q2]
  exact H.write ha fun T locs cells slots vm0 X eT hZ hown B => stC X B.2.1 hZ eT A1 q1 (g := mkF x.m pc Ls (.int u :: .int j :: .ref a :: st)) rfl rfl (hb B.2.2.1 hd)
theorem Hr.bastore {i : Nat} {j u w : Int32} (H : Hr x b Z EL K S h sf pc Ls (.int u :: .int j :: .ref a :: st)) (ha : a ∈ sf) (A : Ar Z h a .byte vs) (hd : decode b.bytes pc = .ok (.bastore, 1)) (hj : j = Int32.ofNat i) (hi : i < vs.length) (hw : nar .byte u = w := by rfl) (hpc : pc + 1 = pc' := by rfl) :
    ∃ h', Wr h h' a i (.int w) ∧ Hr x b Z EL K S h' sf pc' Ls st := by
  subst hpc hw
  obtain ⟨c, A1, r1, r2⟩ := A
  obtain ⟨q1, q2, q3⟩ := Ar.at r1 r2 hj (List.getElem?_eq_getElem hi)
  rw [← q2]
  exact H.write ha fun T locs cells slots vm0 X eT hZ hown B => stB X B.2.1 hZ eT A1 q1 (g := mkF x.m pc Ls (.int u :: .int j :: .ref a :: st)) rfl rfl (hb B.2.2.1 hd)
theorem Hr.iastore {i : Nat} {j u : Int32} (H : Hr x b Z EL K S h sf pc Ls (.int u :: .int j :: .ref a :: st)) (ha : a ∈ sf) (A : Ar Z h a .int vs) (hd : decode b.bytes pc = .ok (.iastore, 1)) (hj : j = Int32.ofNat i) (hi : i < vs.length) (hpc : pc + 1 = pc' := by rfl) :
    ∃ h', Wr h h' a i (.int u) ∧ Hr x b Z EL K S h' sf pc' Ls st := by
  subst hpc
  obtain ⟨c, A1, r1, r2⟩ := A
  obtain ⟨q1, q2, q3⟩ := Ar.at r1 r2 hj (List.getElem?_eq_getElem hi)
  rw [← q2]
  exact H.write ha fun T locs cells slots vm0 X eT hZ hown B => stI X B.2.1 hZ eT A1 q1 (g := mkF x.m pc Ls (.int u :: .int j :: .ref a :: st)) rfl rfl (hb B.2.2.1 hd)
theorem Hr.newarray {aty : ArrayType} {n : Int32} {cap : Nat} (H : Hr x b Z EL K S h sf pc Ls (.int n :: st)) (w : (Jvm.Cond.arrayClass (newarray.typeOf aty)).before a0 Z = true) (hd : decode b.bytes pc = .ok (.newarray aty, 2)) (hn : ¬ n < 0) (hcap : n.toNatClampNeg ≤ cap) (hb8 : cap * 8 ≤ 536870912)
    (hc : K + 1 ≤ b.R.cells := by decide) (hl : S + cap ≤ b.R.slots := by decide) (hpc : pc + 2 = pc' := by rfl) :
    ∃ h', Ext h h' ∧ Ar Z h' h.size (newarray.typeOf aty) (List.replicate n.toNatClampNeg (defaultValue (newarray.typeOf aty))) ∧ Hr x b Z EL (K + 1) (S + cap) h' (h.size :: sf) pc' Ls (.ref h.size :: st) := by
  subst hpc
  refine H.alloc hc hl (P := fun h' => Ar Z h' h.size (newarray.typeOf aty) (List.replicate n.toNatClampNeg (defaultValue (newarray.typeOf aty)))) (fun h' q => q.lt) fun T locs cells slots vm0 X eT hZ hown B hc' hl' => ?_
  obtain ⟨T', h', cA, X', e', E, A, st1⟩ := newP X B.2.1 hZ w eT (g := mkF x.m pc Ls (.int n :: st)) rfl (hb B.2.2.1 hd) rfl hn hcap hb8 hc' hl'
  exact ⟨T', h', X', e', E, Ar.of_new A hn, st1⟩
/-! ### Strings -/
abbrev ST : String := "java/lang/String"
/-- a Latin-1 String: its value array lies at t and holds the bytes bs -/
def Str (Z : State) (h : Heap) (a t : Addr) (bs : List Int32) : Prop := Exa Z h a ST ∧ Fld Z h a ST "coder" "B" (.int 0) ∧ Fld Z h a ST "value" "[B" (.ref t) ∧ Ar Z h t .byte (bs.map Value.int)
variable {t : Addr} {bs : List Int32}
theorem Str.ext (F : Str Z h a t bs) (E : Ext h h') : Str Z h' a t bs := ⟨F.1.ext E, F.2.1.ext E, F.2.2.1.ext E, F.2.2.2.ext E⟩
theorem Str.keep (F : Str Z h a t bs) (K : Keep h h' ws) (q : a ∉ ws) (q' : t ∉ ws) : Str Z h' a t bs := ⟨F.1.keep K, F.2.1.keep K q, F.2.2.1.keep K q, F.2.2.2.keep K q'⟩
theorem Str.other (F : Str Z h a t bs) (W : Wr h h' d sl v) (q : a ≠ d) (q' : t ≠ d) : Str Z h' a t bs := ⟨F.1.wr W, F.2.1.other W (Or.inl q), F.2.2.1.other W (Or.inl q), F.2.2.2.other W q'⟩
theorem Str.lt (F : Str Z h a t bs) : h.size > a := F.1.lt
theorem Str.lt' (F : Str Z h a t bs) : h.size > t := F.2.2.2.lt
theorem Str.len (F : Str Z h a t bs) : bs.length < 2147483648 := by have := F.2.2.2.len; simpa using this
/-- ldc of a String constant, its text read -/
theorem Hr.ldcS {index n : Nat} {text : String} {z : Int32} (H : Hr x b Z EL K S h sf pc Ls st) (w : (Jvm.Cond.stringLink b.y.cls index text).before a0 Z = true) (wS : ∀ d ∈ Bundle.stringAtoms, d.before a0 Z = true) (hEL : EW Z a0 EL) (hmem : (b.y.cls, index) ∈ EL)
    (ht : (∀ c ∈ text.toList, c.toNat < 256) ∧ text.toList.map (fun c => Jvm.Lit.byteI c.toNat.toUInt16) = bs) (hz : ¬ z < 0) (hl : z.toNatClampNeg = bs.length) (hd : decode b.bytes pc = .ok (.ldc index, 2)) (hn : 4 * text.toList.length ≤ n) (hbig : n ≤ 536870912)
    (hnar : x.nar = false) (hc : K + 2 ≤ b.R.cells := by decide) (hl' : S + (n + 4) ≤ b.R.slots := by decide) (hpc : pc + 2 = pc' := by rfl) :
    ∃ (a t : Addr) (h' : Heap), Ext h h' ∧ Str Z h' a t bs ∧ (∀ y ∈ sf, y ≠ a ∧ y ≠ t) ∧ Hr x b Z EL (K + 2) (S + (n + 4)) h' sf pc' Ls (.ref a :: st) := by
  subst hpc
  obtain ⟨B, T, locs, cells, slots, vm0, k0, ⟨X, h1, h2, h3, h4, h5, h6, h7, h8, h9, h10, h11, h12, h13, h14⟩, k⟩ := H
  obtain ⟨a, T', h', k1, b', kc, X', e', E, hS, hk, hW, hf, g1, g2, g3, g4, g5, g6, hC, -, hsafe, st1⟩ := ldcCH X B.2.1 h7 h8 w wS h3 h5 h6 hEL hmem h9.1 (vs := bs.map Value.int) ⟨ht.1, by rw [← ht.2]; simp⟩ hz (by simpa using hl) (g := mkF x.m pc Ls st) rfl (hb B.2.2.1 hd) hn hbig (by omega) (by omega)
  have hm : ∀ y ∈ sf, Mine x Z EL T'.vm h' y := fun y hy => by
    obtain ⟨y1, y2, y3, y4⟩ := h12 y hy
    exact ⟨y1, y2, Nat.lt_of_lt_of_le y3 E.1, hC.safe y3 y4⟩
  refine ⟨a, b', h', E, ⟨g1, g2, g3, Ar.of_arv g4 (by simpa using hl)⟩, fun y hy => hsafe y (hm y hy).2.2.2, B, T', locs, _, _, T'.vm, k1, ⟨X', by omega, by omega, e', h4, hS, hk, hW, hf, h9.trans hC, h10.ext E, Ext.tr h11 E, hm, fun hn => ?_, fun hk => ?_⟩, fun t q => k t (st1 t q)⟩
  · rw [hnar] at hn; cases hn
  · have hal : vm0.Alike T'.vm := h7.alike.symm.trans hW.alike
    exact ⟨Vm.MethodsKnown.alikeC hal (h14 hk).1, Vm.FramesKnown.alikeC hal (h14 hk).2⟩
end Layer3
end Jvm.Pilot.@@N@@
namespace Jvm.Pilot.@@N@@
open Jvm Jvm.ClassFile Sem Op Lib Bundle Jvm.Free Jvm.Stand Jvm.LawKit Jvm.RoadKit
section Layer5
variable {x : Cx} {b : Bx} {Z : State} {EL : List (String × Nat)} {K S : Nat} {h h' : Heap} {sf : List Addr} {pc pc' : Nat} {Ls Ls' : Array Slot} {st st' : List Value} {a0 : Array Value} {a d : Addr}
/-- a step of the library that writes one cell of the walk's, as often as it likes -/
theorem Hr.keepW {P : Heap → Prop} (H : Hr x b Z EL K S h sf pc Ls st) (ha : d ∈ sf)
    (f : ∀ (T : State) (locs : List Loc) (cells slots : Nat) (vm0 : Vm), Stand x.p x.l x.e b.R (x.s.setVm vm0) x.m x.args x.below x.meth x.c T locs cells slots → T.heap = h → Z.Warmed39 (x.s.setVm vm0).vm → (x.s.setVm vm0).vm.findClass b.y.cls = some x.m.cls → Bs x b Z EL → Fr Z.heap.size locs → Z.heap.size ≤ d →
      ∃ T' h' L, Stand x.p x.l x.e b.R (x.s.setVm vm0) x.m x.args x.below x.meth x.c T' L cells slots ∧ T'.heap = h' ∧ Fr Z.heap.size L ∧ Keep h h' [d] ∧ P h' ∧ ∀ target, Steps x.p.tables x.e x.below (T'.setTop (mkF x.m pc' Ls' st')) target → Steps x.p.tables x.e x.below (T.setTop (mkF x.m pc Ls st)) target) :
    ∃ h', Keep h h' [d] ∧ P h' ∧ Hr x b Z EL K S h' sf pc' Ls' st' := by
  obtain ⟨B, T, locs, cells, slots, vm0, k0, ⟨X, h1, h2, h3, h4, h5, h6, h7, h8, h9, h10, h11, h12, h13, h14⟩, k⟩ := H
  have hm := h12 d ha
  obtain ⟨T', h', L, X', e', N, W, hp, st1⟩ := f T locs cells slots vm0 X h3 h7 h8 B h4 hm.2.1
  have hs : ∀ z ∈ [d], Safe Z EL vm0 h z := fun z hz => by cases List.mem_singleton.mp hz; exact hm.2.2.2
  refine ⟨h', W, hp, B, T', L, cells, slots, vm0, k0, ⟨X', h1, h2, e', N, h5, Nat.le_trans h6 W.1, h7, h8, h9.trans (CHr.keep W hs h9.1), h10.trans W (fun z hz => by cases List.mem_singleton.mp hz; exact hm.1), Ext.ofKeep h11 W (allS hm.2.1 all0), fun y hy => ?_, h13, h14⟩, fun t q => k t (st1 t q)⟩
  obtain ⟨y1, y2, y3, y4⟩ := h12 y hy
  exact ⟨y1, y2, Nat.lt_of_lt_of_le y3 W.1, Safe.keep W hs h9.1 y4⟩
theorem Ar.arv {ty : FieldType} {vs : List Value} {dv : Value} (F : Ar Z h a ty vs) (hf : ∀ v ∈ vs, fits ty v = true) : ∃ k, Arv Z h a k ty (Int32.ofNat vs.length) vs dv := by
  obtain ⟨c, A, r1, r2⟩ := F
  have hs : c.slots.size = vs.length := by rw [← r1, Array.length_toList]
  refine ⟨c.cls, c, A, rfl, by rw [hs]; exact (clamp_of rfl (by omega)).symm, by rw [Int32.lt_iff_toInt_lt, toInt_of rfl (by omega)]; simp, fun i hi => ?_, fun i hi => ?_⟩
  · rw [← Array.getElem?_toList, r1, List.getElem?_eq_getElem (by omega)]; simp [List.getD, show i < vs.length by omega]
  · have hi' : i < vs.length := by omega
    simp [List.getD, hi']; exact hf _ (List.getElem_mem hi')
theorem nn32 {n : Nat} (h : n < 2147483648) : ¬ Int32.ofNat n < 0 := by rw [Int32.lt_iff_toInt_lt, toInt_of rfl (by omega)]; simp
/-- System.arraycopy between arrays of one plain kind -/
theorem Hr.arraycopy {index i j n : Nat} {ty : FieldType} {vs ws : List Value} (H : Hr x b Z EL K S h sf pc Ls (.int (Int32.ofNat n) :: .int (Int32.ofNat j) :: .ref d :: .int (Int32.ofNat i) :: .ref a :: st)) (hds : d ∈ sf)
    (w1 : (Jvm.Cond.methodLink b.y.cls index Jvm.Stand.acN).before a0 Z = true) (w2 : (Jvm.Cond.native Jvm.Stand.acN).before a0 Z = true) (w3 : (Jvm.Cond.static Jvm.Stand.acN).before a0 Z = true) (w4 : (Jvm.Cond.initialized "java/lang/System").before a0 Z = true)
    (A : Ar Z h a ty vs) (D : Ar Z h d ty ws) (hty : refKind ty = false) (hfa : ∀ v ∈ vs, fits ty v = true) (hfd : ∀ v ∈ ws, fits ty v = true) (h1 : i + n ≤ vs.length) (h2 : j + n ≤ ws.length) (hd : decode b.bytes pc = .ok (.invokestatic index, 3))
    (hf : 1 ≤ b.R.frames := by decide) {Wr : Nat} (hW : (st.map fun v => v.category).sum = Wr := by rfl) (hl : Wr + 18 ≤ b.R.locals := by decide) (hLs : Ls.size = b.maxL := by rfl) (hpc : pc + 3 = pc' := by rfl) :
    ∃ h', Keep h h' [d] ∧ Ar Z h' d ty (ws.take j ++ (vs.drop i).take n ++ ws.drop (j + n)) ∧ Hr x b Z EL K S h' sf pc' Ls st := by
  subst hpc hW
  have la := A.len
  have ld := D.len
  obtain ⟨k1, A1⟩ := A.arv (dv := .int 0) hfa
  obtain ⟨k2, D1⟩ := D.arv (dv := .int 0) hfd
  have ci := clamp_of (n := Int32.ofNat i) rfl (show i < 2 ^ 31 by omega)
  have cj := clamp_of (n := Int32.ofNat j) rfl (show j < 2 ^ 31 by omega)
  have cn := clamp_of (n := Int32.ofNat n) rfl (show n < 2 ^ 31 by omega)
  have ca := clamp_of (n := Int32.ofNat vs.length) rfl (show vs.length < 2 ^ 31 by omega)
  have cd := clamp_of (n := Int32.ofNat ws.length) rfl (show ws.length < 2 ^ 31 by omega)
  have hus : (List.range n).map (fun q => vs.getD (i + q) (.int 0)) = (vs.drop i).take n := by
    apply List.ext_getElem
    · simp; omega
    · intro q q1 q2
      simp at q1 q2
      simp [List.getD, show i + q < vs.length by omega]
  refine H.keepW hds (P := fun h' => Ar Z h' d ty (ws.take j ++ (vs.drop i).take n ++ ws.drop (j + n))) fun T locs cells slots vm0 X eT hZ hown B N ge => ?_
  obtain ⟨T', h', L, X', e', N', W, F', st1⟩ := cpA X B.2.1 hZ hown w1 w2 w3 w4 eT A1 D1 (us := (vs.drop i).take n) (Or.inl ⟨rfl, hty⟩) (nn32 (by omega)) (nn32 (by omega)) (nn32 (by omega)) (by rw [ci, cn, ca]; exact h1) (by rw [cj, cn, cd]; exact h2) (by rw [ci, cn]; exact hus.symm) (by rw [cj, cn]; exact h2) N ge
    (g := mkF x.m pc Ls (.int (Int32.ofNat n) :: .int (Int32.ofNat j) :: .ref d :: .int (Int32.ofNat i) :: .ref a :: st)) rfl (hLs.trans B.2.2.2.1.symm) rfl (hb B.2.2.1 hd) hf (W := (st.map fun v => v.category).sum) (by show 2 * 0 + _ ≤ _; omega) (by show _ + (_ + 11) ≤ _; exact hl)
  rw [cj, cn] at F'
  refine ⟨T', h', L, X', e', N', W, Ar.of_arv F' (by rw [cd]; simp; omega), st1⟩
/-- a private method of the receiver's class (or above it), by invokevirtual -/
theorem Hr.callP {y y' : MethodName} {bytes : ByteArray} {maxL : Nat} {ret : Option FieldType} {rm : Room} {as' : Array Value} {sf' : List Addr} {Q : Option Value → Heap → List Addr → Prop} {index : Nat} {cls cls' : String} {argsL rest : List Value} {ps : List FieldType} {rt : Option FieldType}
    (H : Hr x b Z EL K S h sf pc Ls st) (C : Ct x.l Z EL y bytes maxL ret rm as' h sf' x.nar x.kn Q) (sub : ∀ a ∈ sf', a ∈ sf) (E : Exa Z h a cls)
    (w1 : (Jvm.Cond.methodLink b.y.cls index y).before a0 Z = true) (wi : (Jvm.Cond.instanceMethod y).before a0 Z = true) (ws : (Jvm.Cond.selects cls' y' y').before a0 Z = true) (wp : (Jvm.Cond.privateMethod y).before a0 Z = true) (w3 : (Jvm.Cond.initialized y.cls).before a0 Z = true) (w4 : (Jvm.Cond.code y bytes maxL ret).before a0 Z = true)
    (hd : decode b.bytes pc = .ok (.invokevirtual index, 3)) (hp : parseMethodDescriptor y.desc = some ⟨ps, rt⟩) (hst : st = argsL.reverse ++ .ref a :: rest) (hyc : y'.cls = y.cls := by rfl) (has : (Value.ref a :: argsL).toArray = as' := by rfl) (hl2 : argsL.length = ps.length := by rfl) (hy : y.cls ≠ "java/lang/invoke/MethodHandle" ∧ y.cls ≠ "java/lang/invoke/VarHandle" := by decide)
    (hf : rm.frames + 1 ≤ b.R.frames := by decide) {Wr : Nat} (hW : (rest.map fun v => v.category).sum = Wr := by rfl) (hl : Wr + (maxL + 11) + rm.locals ≤ b.R.locals := by decide) (hc : K + rm.cells ≤ b.R.cells := by decide) (hs : S + rm.slots ≤ b.R.slots := by decide) (hLs : Ls.size = b.maxL := by rfl) (hpc : pc + 3 = pc' := by rfl) :
    ∃ (v : Option Value) (h' : Heap) (sn : List Addr), Q v h' sn ∧ Keep h h' sf' ∧ Hr x b Z EL (K + rm.cells) (S + rm.slots) h' (sn ++ sf) pc' Ls (v.toList ++ rest) := by
  subst has hpc hW
  obtain ⟨B, T, locs, cells, slots, vm0, k0, X, k⟩ := H
  have X2 := X
  obtain ⟨X1, h1, h2, h3, h4, h5, h6, h7, h8, h9, h10, h11, h12, h13, h14⟩ := X2
  obtain ⟨cq, q1, q2⟩ := E.cell
  obtain ⟨mk, methM, hnamed, hmethM, hstM, habM⟩ := Cond.instanceMethod_spec (mv (args := x.args) (s := x.s.setVm vm0) h7 wi)
  obtain ⟨methM', cM, hmethM', -, -, -, -, -, -, hsigM⟩ := Cond.code_spec hnamed (mv (args := x.args) (s := x.s.setVm vm0) h7 w4)
  cases hmethM.symm.trans hmethM'
  obtain ⟨c2, r2, m2, -, -, q3, -, kP, hkP, hkPi⟩ := Cond.selects_spec (mv (args := x.args) (s := x.s.setVm vm0) h7 ws)
  have hcn := findClass_of_methodNamed hnamed
  have hcn' := findClass_of_methodNamed q3
  rw [hyc, hcn] at hcn'
  have e : mk.cls = m2.cls := Option.some.inj hcn'
  rw [← e] at hkP
  have hselP : selectMethod x.e.platform (x.s.setVm vm0).vm cq.cls mk = .method mk := selectMethod_private hmethM (Cond.privateMethod_at (mvP (s := x.s.setVm vm0) h7 wp (args := #[])) mk methM hnamed hmethM)
  obtain ⟨vm₁, X₁, hstep₁⟩ := X1.invokevirtual B.2.1 h8 (mvT h7 w1) hnamed hmethM hstM hkP hkPi hy (a := a) (cell := cq) (by rw [h3]; exact q1) q2 hselP hmethM habM hkP hkPi (g := mkF x.m pc Ls st) rfl (argsL := argsL) (rest := rest) (lenOf hp hl2 _ hsigM) hst (hb B.2.2.1 hd)
  have hW₁ : (x.s.setVm vm0).WarmedH vm₁ := X₁.warmed
  obtain ⟨v, P, X', hS, hgr, hp', hsteps⟩ := (C.backS (p := x.p) (e := x.e) (R := b.R) (below := x.below) (s := x.s) (args := x.args) (len := 3) (W := (rest.map fun v => v.category).sum) h7 w4 w3 hf hl B.1.choose_spec h9.1 h11 (fun z hz => (h12 z (sub z hz)).2) h14) x.m x.meth x.c ⟨T.setVm vm₁, locs, cells, slots⟩ (mkF x.m pc Ls rest) (.invokevirtual index) mk (.ref a :: argsL).toArray X₁ rfl (hLs.trans B.2.2.2.1.symm) (hb B.2.2.1 hd) (by show 2 * 0 + (rest.map fun v => v.category).sum ≤ (rest.map fun v => v.category).sum; omega) (X₁.named hnamed) ⟨rfl, h3, by show cells + _ ≤ _; omega, by show slots + _ ≤ _; omega⟩
  obtain ⟨h', sn, r1, r2, r3⟩ := Hr.after (rm := rm) (sf' := sf') (Q := Q) (pc' := pc + 3) (st' := v.toList ++ rest) B X k sub X' hS hgr hp' ((hstep₁ _ fun acts => by rw [doInvoke_state]; exact Steps.refl _).trans hsteps)
  exact ⟨v, h', sn, r1, r2, r3⟩
theorem same_own {s : State} {args : Array Value} {y y' : MethodName} {C : String} (wd : (Jvm.Cond.instanceMethod y).before args s = true) (ws : (Jvm.Cond.selects C y' y').before args s = true) (hc : y'.cls = y.cls) (hy : y.cls ≠ "java/lang/invoke/MethodHandle" ∧ y.cls ≠ "java/lang/invoke/VarHandle") : (Jvm.Cond.sameMethod y.cls y.cls y.name y.desc).before args s = true := by
  obtain ⟨mk, methM, hnamed, hmethM, hstM, habM⟩ := Cond.instanceMethod_spec wd
  obtain ⟨c2, r2, m2, -, -, q3, -, kP, hkP, hkPi⟩ := Cond.selects_spec ws
  have hcn := findClass_of_methodNamed hnamed
  have hcn' := findClass_of_methodNamed q3
  rw [hc, hcn] at hcn'
  have e : mk.cls = m2.cls := Option.some.inj hcn'
  rw [← e] at hkP
  have hf := State.methodFound?_of_named hnamed hy
  have hn : s.methodNamed? ⟨y.cls, y.name, y.desc⟩ = some mk := hnamed
  simp [Cond.before, Cond.holds, Cond.value, hcn, hf, hn, hkP, hkPi]
/-- super.m(..) -/
theorem Hr.callSup {y y' : MethodName} {bytes : ByteArray} {maxL : Nat} {ret : Option FieldType} {rm : Room} {as' : Array Value} {sf' : List Addr} {Q : Option Value → Heap → List Addr → Prop} {index : Nat} {cls cls' : String} {argsL rest : List Value} {ps : List FieldType} {rt : Option FieldType}
    (H : Hr x b Z EL K S h sf pc Ls st) (C : Ct x.l Z EL y bytes maxL ret rm as' h sf' x.nar x.kn Q) (sub : ∀ a ∈ sf', a ∈ sf) (E : Exa Z h a cls)
    (w1 : (Jvm.Cond.methodLink b.y.cls index y).before a0 Z = true) (wi : (Jvm.Cond.instanceMethod y).before a0 Z = true) (wf : (Jvm.Cond.selects cls' y' y').before a0 Z = true) (wu : (Jvm.Cond.superclass b.y.cls y.cls).before a0 Z = true) (w3 : (Jvm.Cond.initialized y.cls).before a0 Z = true) (w4 : (Jvm.Cond.code y bytes maxL ret).before a0 Z = true)
    (hd : decode b.bytes pc = .ok (.invokespecial index, 3)) (hp : parseMethodDescriptor y.desc = some ⟨ps, rt⟩) (hst : st = argsL.reverse ++ .ref a :: rest) (hc' : y'.cls = y.cls := by rfl) (has : (Value.ref a :: argsL).toArray = as' := by rfl) (hl2 : argsL.length = ps.length := by rfl) (hn : y.name ≠ "<init>" := by decide) (hy : y.cls ≠ "java/lang/invoke/MethodHandle" ∧ y.cls ≠ "java/lang/invoke/VarHandle" := by decide)
    (hf : rm.frames + 1 ≤ b.R.frames := by decide) {Wr : Nat} (hW : (rest.map fun v => v.category).sum = Wr := by rfl) (hl : Wr + (maxL + 11) + rm.locals ≤ b.R.locals := by decide) (hc : K + rm.cells ≤ b.R.cells := by decide) (hs : S + rm.slots ≤ b.R.slots := by decide) (hLs : Ls.size = b.maxL := by rfl) (hpc : pc + 3 = pc' := by rfl) :
    ∃ (v : Option Value) (h' : Heap) (sn : List Addr), Q v h' sn ∧ Keep h h' sf' ∧ Hr x b Z EL (K + rm.cells) (S + rm.slots) h' (sn ++ sf) pc' Ls (v.toList ++ rest) := by
  subst has hpc hW
  obtain ⟨B, T, locs, cells, slots, vm0, k0, X, k⟩ := H
  have X2 := X
  obtain ⟨X1, h1, h2, h3, h4, h5, h6, h7, h8, h9, h10, h11, h12, h13, h14⟩ := X2
  obtain ⟨v, vm₁, P, -, X', hS, hgr, hp', hsteps⟩ := superBackS X1 B.2.1 h7 (K := cls) h8 w1 (same_own wi wf hc' hy) wi wu hn
    (C.backS (W := (rest.map fun v => v.category).sum) h7 w4 w3 hf hl B.1.choose_spec h9.1 h11 (fun z hz => (h12 z (sub z hz)).2) h14) h3 (Ins.self E)
    (g := mkF x.m pc Ls st) rfl (hLs.trans B.2.2.2.1.symm) w4 (argsL := argsL) (rest := rest) (lenOf hp hl2) hst (by show 2 * 0 + _ ≤ _; omega) (hb B.2.2.1 hd) (fun vm₁ _ => ⟨rfl, h3, by show cells + _ ≤ _; omega, by show slots + _ ≤ _; omega⟩)
  obtain ⟨h', sn, r1, r2, r3⟩ := Hr.after (rm := rm) (sf' := sf') (Q := Q) B X k sub X' hS hgr hp' hsteps
  exact ⟨v, h', sn, r1, r2, r3⟩
end Layer5
end Jvm.Pilot.@@N@@
namespace Jvm.Pilot.@@N@@
open Jvm Jvm.ClassFile Sem Op Lib Bundle Jvm.Free Jvm.Stand Jvm.LawKit Jvm.RoadKit Jvm.Pilot.@@N@@.Jvm.D
theorem w0 {a0 : Array Value} {Z : State} (hw : ∀ d ∈ tables_1, d.before a0 Z = true) : ((Jvm.Cond.methodLink "com/example/ortigia/ortigia/LockKeysOfPinLaw" (7 : Nat) ({ cls := "com/example/ortigia/ortigia/LockKeysOfPinLaw", name := "brace", desc := "(C)Z" } : Jvm.MethodName)) : Jvm.Cond).before a0 Z = true := hw _ (List.mem_of_getElem? (i := 0) rfl)
theorem w1 {a0 : Array Value} {Z : State} (hw : ∀ d ∈ tables_1, d.before a0 Z = true) : ((Jvm.Cond.static ({ cls := "com/example/ortigia/ortigia/LockKeysOfPinLaw", name := "brace", desc := "(C)Z" } : Jvm.MethodName)) : Jvm.Cond).before a0 Z = true := hw _ (List.mem_of_getElem? (i := 1) rfl)
theorem w2 {a0 : Array Value} {Z : State} (hw : ∀ d ∈ tables_1, d.before a0 Z = true) : ((Jvm.Cond.initialized "com/example/ortigia/ortigia/LockKeysOfPinLaw") : Jvm.Cond).before a0 Z = true := hw _ (List.mem_of_getElem? (i := 2) rfl)
theorem w3 {a0 : Array Value} {Z : State} (hw : ∀ d ∈ tables_1, d.before a0 Z = true) : ((Jvm.Cond.code ({ cls := "com/example/ortigia/ortigia/LockKeysOfPinLaw", name := "brace", desc := "(C)Z" } : Jvm.MethodName) method_3_code (1 : Nat) (Option.some Jvm.ClassFile.FieldType.boolean)) : Jvm.Cond).before a0 Z = true := hw _ (List.mem_of_getElem? (i := 3) rfl)
theorem w4 {a0 : Array Value} {Z : State} (hw : ∀ d ∈ tables_1, d.before a0 Z = true) : ((Jvm.Cond.arrayClass Jvm.ClassFile.FieldType.char) : Jvm.Cond).before a0 Z = true := hw _ (List.mem_of_getElem? (i := 4) rfl)
theorem w5 {a0 : Array Value} {Z : State} (hw : ∀ d ∈ tables_1, d.before a0 Z = true) : ((Jvm.Cond.classLink "com/example/ortigia/ortigia/LockKeysOfPinLaw" (13 : Nat) "java/lang/String") : Jvm.Cond).before a0 Z = true := hw _ (List.mem_of_getElem? (i := 5) rfl)
theorem w6 {a0 : Array Value} {Z : State} (hw : ∀ d ∈ tables_1, d.before a0 Z = true) : ((Jvm.Cond.instantiable "java/lang/String" (4 : Nat)) : Jvm.Cond).before a0 Z = true := hw _ (List.mem_of_getElem? (i := 6) rfl)
theorem w7 {a0 : Array Value} {Z : State} (hw : ∀ d ∈ tables_1, d.before a0 Z = true) : ((Jvm.Cond.initialized "java/lang/String") : Jvm.Cond).before a0 Z = true := hw _ (List.mem_of_getElem? (i := 7) rfl)
theorem w8 {a0 : Array Value} {Z : State} (hw : ∀ d ∈ tables_1, d.before a0 Z = true) : ((Jvm.Cond.methodLink "com/example/ortigia/ortigia/LockKeysOfPinLaw" (15 : Nat) ({ cls := "java/lang/String", name := "<init>", desc := "([C)V" } : Jvm.MethodName)) : Jvm.Cond).before a0 Z = true := hw _ (List.mem_of_getElem? (i := 8) rfl)
theorem w9 {a0 : Array Value} {Z : State} (hw : ∀ d ∈ tables_1, d.before a0 Z = true) : ((Jvm.Cond.instanceMethod ({ cls := "java/lang/String", name := "<init>", desc := "([C)V" } : Jvm.MethodName)) : Jvm.Cond).before a0 Z = true := hw _ (List.mem_of_getElem? (i := 9) rfl)
theorem w10 {a0 : Array Value} {Z : State} (hw : ∀ d ∈ tables_1, d.before a0 Z = true) : ((Jvm.Cond.code ({ cls := "java/lang/String", name := "<init>", desc := "([C)V" } : Jvm.MethodName) jdk_42_method_3_code (2 : Nat) (Option.none : Option Jvm.ClassFile.FieldType)) : Jvm.Cond).before a0 Z = true := hw _ (List.mem_of_getElem? (i := 10) rfl)
theorem w11 {a0 : Array Value} {Z : State} (hw : ∀ d ∈ tables_1, d.before a0 Z = true) : ((Jvm.Cond.methodLink "java/lang/String" (27 : Nat) ({ cls := "java/lang/String", name := "<init>", desc := "([CIILjava/lang/Void;)V" } : Jvm.MethodName)) : Jvm.Cond).before a0 Z = true := hw _ (List.mem_of_getElem? (i := 11) rfl)
theorem w12 {a0 : Array Value} {Z : State} (hw : ∀ d ∈ tables_1, d.before a0 Z = true) : ((Jvm.Cond.instanceMethod ({ cls := "java/lang/String", name := "<init>", desc := "([CIILjava/lang/Void;)V" } : Jvm.MethodName)) : Jvm.Cond).before a0 Z = true := hw _ (List.mem_of_getElem? (i := 12) rfl)
theorem w14 {a0 : Array Value} {Z : State} (hw : ∀ d ∈ tables_1, d.before a0 Z = true) : ((Jvm.Cond.code ({ cls := "java/lang/String", name := "<init>", desc := "([CIILjava/lang/Void;)V" } : Jvm.MethodName) jdk_42_method_149_code (6 : Nat) (Option.none : Option Jvm.ClassFile.FieldType)) : Jvm.Cond).before a0 Z = true := hw _ (List.mem_of_getElem? (i := 14) rfl)
theorem w15 {a0 : Array Value} {Z : State} (hw : ∀ d ∈ tables_1, d.before a0 Z = true) : ((Jvm.Cond.methodLink "java/lang/String" (1 : Nat) ({ cls := "java/lang/Object", name := "<init>", desc := "()V" } : Jvm.MethodName)) : Jvm.Cond).before a0 Z = true := hw _ (List.mem_of_getElem? (i := 15) rfl)
theorem w16 {a0 : Array Value} {Z : State} (hw : ∀ d ∈ tables_1, d.before a0 Z = true) : ((Jvm.Cond.instanceMethod ({ cls := "java/lang/Object", name := "<init>", desc := "()V" } : Jvm.MethodName)) : Jvm.Cond).before a0 Z = true := hw _ (List.mem_of_getElem? (i := 16) rfl)
theorem w17 {a0 : Array Value} {Z : State} (hw : ∀ d ∈ tables_1, d.before a0 Z = true) : ((Jvm.Cond.code ({ cls := "java/lang/Object", name := "<init>", desc := "()V" } : Jvm.MethodName) object_method_1_code (1 : Nat) (Option.none : Option Jvm.ClassFile.FieldType)) : Jvm.Cond).before a0 Z = true := hw _ (List.mem_of_getElem? (i := 17) rfl)
theorem w18 {a0 : Array Value} {Z : State} (hw : ∀ d ∈ tables_1, d.before a0 Z = true) : ((Jvm.Cond.fieldLink "java/lang/String" (38 : Nat) "java/lang/String" "COMPACT_STRINGS" "Z") : Jvm.Cond).before a0 Z = true := hw _ (List.mem_of_getElem? (i := 18) rfl)
theorem w19 {a0 : Array Value} {Z : State} (hw : ∀ d ∈ tables_1, d.before a0 Z = true) : ((Jvm.Cond.methodLink "java/lang/String" (177 : Nat) ({ cls := "java/lang/StringUTF16", name := "compress", desc := "([CII)[B" } : Jvm.MethodName)) : Jvm.Cond).before a0 Z = true := hw _ (List.mem_of_getElem? (i := 19) rfl)
theorem w20 {a0 : Array Value} {Z : State} (hw : ∀ d ∈ tables_1, d.before a0 Z = true) : ((Jvm.Cond.static ({ cls := "java/lang/StringUTF16", name := "compress", desc := "([CII)[B" } : Jvm.MethodName)) : Jvm.Cond).before a0 Z = true := hw _ (List.mem_of_getElem? (i := 20) rfl)
theorem w21 {a0 : Array Value} {Z : State} (hw : ∀ d ∈ tables_1, d.before a0 Z = true) : ((Jvm.Cond.initialized "java/lang/StringUTF16") : Jvm.Cond).before a0 Z = true := hw _ (List.mem_of_getElem? (i := 21) rfl)
theorem w22 {a0 : Array Value} {Z : State} (hw : ∀ d ∈ tables_1, d.before a0 Z = true) : ((Jvm.Cond.code ({ cls := "java/lang/StringUTF16", name := "compress", desc := "([CII)[B" } : Jvm.MethodName) jdk_52_method_16_code (6 : Nat) (Option.some (Jvm.ClassFile.FieldType.array Jvm.ClassFile.FieldType.byte))) : Jvm.Cond).before a0 Z = true := hw _ (List.mem_of_getElem? (i := 22) rfl)
theorem w23 {a0 : Array Value} {Z : State} (hw : ∀ d ∈ tables_1, d.before a0 Z = true) : ((Jvm.Cond.arrayClass Jvm.ClassFile.FieldType.byte) : Jvm.Cond).before a0 Z = true := hw _ (List.mem_of_getElem? (i := 23) rfl)
theorem w24 {a0 : Array Value} {Z : State} (hw : ∀ d ∈ tables_1, d.before a0 Z = true) : ((Jvm.Cond.methodLink "java/lang/StringUTF16" (115 : Nat) ({ cls := "java/lang/StringUTF16", name := "compress", desc := "([CI[BII)I" } : Jvm.MethodName)) : Jvm.Cond).before a0 Z = true := hw _ (List.mem_of_getElem? (i := 24) rfl)
theorem w25 {a0 : Array Value} {Z : State} (hw : ∀ d ∈ tables_1, d.before a0 Z = true) : ((Jvm.Cond.static ({ cls := "java/lang/StringUTF16", name := "compress", desc := "([CI[BII)I" } : Jvm.MethodName)) : Jvm.Cond).before a0 Z = true := hw _ (List.mem_of_getElem? (i := 25) rfl)
theorem w26 {a0 : Array Value} {Z : State} (hw : ∀ d ∈ tables_1, d.before a0 Z = true) : ((Jvm.Cond.code ({ cls := "java/lang/StringUTF16", name := "compress", desc := "([CI[BII)I" } : Jvm.MethodName) jdk_52_method_21_code (7 : Nat) (Option.some Jvm.ClassFile.FieldType.int)) : Jvm.Cond).before a0 Z = true := hw _ (List.mem_of_getElem? (i := 26) rfl)
theorem w27 {a0 : Array Value} {Z : State} (hw : ∀ d ∈ tables_1, d.before a0 Z = true) : ((Jvm.Cond.methodLink "java/lang/String" (47 : Nat) ({ cls := "java/lang/StringUTF16", name := "coderFromArrayLen", desc := "([BI)B" } : Jvm.MethodName)) : Jvm.Cond).before a0 Z = true := hw _ (List.mem_of_getElem? (i := 27) rfl)
theorem w28 {a0 : Array Value} {Z : State} (hw : ∀ d ∈ tables_1, d.before a0 Z = true) : ((Jvm.Cond.static ({ cls := "java/lang/StringUTF16", name := "coderFromArrayLen", desc := "([BI)B" } : Jvm.MethodName)) : Jvm.Cond).before a0 Z = true := hw _ (List.mem_of_getElem? (i := 28) rfl)
theorem w29 {a0 : Array Value} {Z : State} (hw : ∀ d ∈ tables_1, d.before a0 Z = true) : ((Jvm.Cond.code ({ cls := "java/lang/StringUTF16", name := "coderFromArrayLen", desc := "([BI)B" } : Jvm.MethodName) jdk_52_method_15_code (2 : Nat) (Option.some Jvm.ClassFile.FieldType.byte)) : Jvm.Cond).before a0 Z = true := hw _ (List.mem_of_getElem? (i := 29) rfl)
theorem w30 {a0 : Array Value} {Z : State} (hw : ∀ d ∈ tables_1, d.before a0 Z = true) : ((Jvm.Cond.fieldLink "java/lang/String" (15 : Nat) "java/lang/String" "coder" "B") : Jvm.Cond).before a0 Z = true := hw _ (List.mem_of_getElem? (i := 30) rfl)
theorem w31 {a0 : Array Value} {Z : State} (hw : ∀ d ∈ tables_1, d.before a0 Z = true) : ((Jvm.Cond.laysFinal "java/lang/String" "java/lang/String" "coder" "B") : Jvm.Cond).before a0 Z = true := hw _ (List.mem_of_getElem? (i := 31) rfl)
theorem w32 {a0 : Array Value} {Z : State} (hw : ∀ d ∈ tables_1, d.before a0 Z = true) : ((Jvm.Cond.fieldLink "java/lang/String" (9 : Nat) "java/lang/String" "value" "[B") : Jvm.Cond).before a0 Z = true := hw _ (List.mem_of_getElem? (i := 32) rfl)
theorem w33 {a0 : Array Value} {Z : State} (hw : ∀ d ∈ tables_1, d.before a0 Z = true) : ((Jvm.Cond.laysFinal "java/lang/String" "java/lang/String" "value" "[B") : Jvm.Cond).before a0 Z = true := hw _ (List.mem_of_getElem? (i := 33) rfl)
theorem w34 {a0 : Array Value} {Z : State} (hw : ∀ d ∈ tables_1, d.before a0 Z = true) : ((Jvm.Cond.methodLink "com/example/ortigia/ortigia/LockKeysOfPinLaw" (18 : Nat) ({ cls := "com/example/ortigia/ortigia/LockKeys", name := "of", desc := "(Ljava/lang/String;)Lcom/example/ortigia/ortigia/LockKeys;" } : Jvm.MethodName)) : Jvm.Cond).before a0 Z = true := hw _ (List.mem_of_getElem? (i := 34) rfl)
theorem w35 {a0 : Array Value} {Z : State} (hw : ∀ d ∈ tables_1, d.before a0 Z = true) : ((Jvm.Cond.static ({ cls := "com/example/ortigia/ortigia/LockKeys", name := "of", desc := "(Ljava/lang/String;)Lcom/example/ortigia/ortigia/LockKeys;" } : Jvm.MethodName)) : Jvm.Cond).before a0 Z = true := hw _ (List.mem_of_getElem? (i := 35) rfl)
theorem w36 {a0 : Array Value} {Z : State} (hw : ∀ d ∈ tables_1, d.before a0 Z = true) : ((Jvm.Cond.initialized "com/example/ortigia/ortigia/LockKeys") : Jvm.Cond).before a0 Z = true := hw _ (List.mem_of_getElem? (i := 36) rfl)
theorem w37 {a0 : Array Value} {Z : State} (hw : ∀ d ∈ tables_1, d.before a0 Z = true) : ((Jvm.Cond.code ({ cls := "com/example/ortigia/ortigia/LockKeys", name := "of", desc := "(Ljava/lang/String;)Lcom/example/ortigia/ortigia/LockKeys;" } : Jvm.MethodName) prog_4_method_2_code (1 : Nat) (Option.some (Jvm.ClassFile.FieldType.object "com/example/ortigia/ortigia/LockKeys"))) : Jvm.Cond).before a0 Z = true := hw _ (List.mem_of_getElem? (i := 37) rfl)
theorem w38 {a0 : Array Value} {Z : State} (hw : ∀ d ∈ tables_1, d.before a0 Z = true) : ((Jvm.Cond.stringLink "com/example/ortigia/ortigia/LockKeys" (13 : Nat) "name") : Jvm.Cond).before a0 Z = true := hw _ (List.mem_of_getElem? (i := 38) rfl)
theorem w39 {a0 : Array Value} {Z : State} (hw : ∀ d ∈ tables_1, d.before a0 Z = true) : ((Jvm.Cond.soleField "java/lang/String" "value") : Jvm.Cond).before a0 Z = true := hw _ (List.mem_of_getElem? (i := 39) rfl)
theorem w40 {a0 : Array Value} {Z : State} (hw : ∀ d ∈ tables_1, d.before a0 Z = true) : ((Jvm.Cond.soleField "java/lang/String" "coder") : Jvm.Cond).before a0 Z = true := hw _ (List.mem_of_getElem? (i := 40) rfl)
theorem w41 {a0 : Array Value} {Z : State} (hw : ∀ d ∈ tables_1, d.before a0 Z = true) : ((Jvm.Cond.methodLink "com/example/ortigia/ortigia/LockKeys" (14 : Nat) ({ cls := "java/util/Objects", name := "requireNonNull", desc := "(Ljava/lang/Object;Ljava/lang/String;)Ljava/lang/Object;" } : Jvm.MethodName)) : Jvm.Cond).before a0 Z = true := hw _ (List.mem_of_getElem? (i := 41) rfl)
theorem w42 {a0 : Array Value} {Z : State} (hw : ∀ d ∈ tables_1, d.before a0 Z = true) : ((Jvm.Cond.static ({ cls := "java/util/Objects", name := "requireNonNull", desc := "(Ljava/lang/Object;Ljava/lang/String;)Ljava/lang/Object;" } : Jvm.MethodName)) : Jvm.Cond).before a0 Z = true := hw _ (List.mem_of_getElem? (i := 42) rfl)
theorem w43 {a0 : Array Value} {Z : State} (hw : ∀ d ∈ tables_1, d.before a0 Z = true) : ((Jvm.Cond.initialized "java/util/Objects") : Jvm.Cond).before a0 Z = true := hw _ (List.mem_of_getElem? (i := 43) rfl)
theorem w44 {a0 : Array Value} {Z : State} (hw : ∀ d ∈ tables_1, d.before a0 Z = true) : ((Jvm.Cond.code ({ cls := "java/util/Objects", name := "requireNonNull", desc := "(Ljava/lang/Object;Ljava/lang/String;)Ljava/lang/Object;" } : Jvm.MethodName) jdk_31_method_11_code (2 : Nat) (Option.some (Jvm.ClassFile.FieldType.object "java/lang/Object"))) : Jvm.Cond).before a0 Z = true := hw _ (List.mem_of_getElem? (i := 44) rfl)
theorem w45 {a0 : Array Value} {Z : State} (hw : ∀ d ∈ tables_1, d.before a0 Z = true) : ((Jvm.Cond.methodLink "com/example/ortigia/ortigia/LockKeys" (20 : Nat) ({ cls := "java/lang/String", name := "isEmpty", desc := "()Z" } : Jvm.MethodName)) : Jvm.Cond).before a0 Z = true := hw _ (List.mem_of_getElem? (i := 45) rfl)
theorem w46 {a0 : Array Value} {Z : State} (hw : ∀ d ∈ tables_1, d.before a0 Z = true) : ((Jvm.Cond.declares ({ cls := "java/lang/String", name := "isEmpty", desc := "()Z" } : Jvm.MethodName)) : Jvm.Cond).before a0 Z = true := hw _ (List.mem_of_getElem? (i := 46) rfl)
theorem w47 {a0 : Array Value} {Z : State} (hw : ∀ d ∈ tables_1, d.before a0 Z = true) : ((Jvm.Cond.instanceMethod ({ cls := "java/lang/String", name := "isEmpty", desc := "()Z" } : Jvm.MethodName)) : Jvm.Cond).before a0 Z = true := hw _ (List.mem_of_getElem? (i := 47) rfl)
theorem w48 {a0 : Array Value} {Z : State} (hw : ∀ d ∈ tables_1, d.before a0 Z = true) : ((Jvm.Cond.selects "java/lang/String" ({ cls := "java/lang/String", name := "isEmpty", desc := "()Z" } : Jvm.MethodName) ({ cls := "java/lang/String", name := "isEmpty", desc := "()Z" } : Jvm.MethodName)) : Jvm.Cond).before a0 Z = true := hw _ (List.mem_of_getElem? (i := 48) rfl)
theorem w49 {a0 : Array Value} {Z : State} (hw : ∀ d ∈ tables_1, d.before a0 Z = true) : ((Jvm.Cond.code ({ cls := "java/lang/String", name := "isEmpty", desc := "()Z" } : Jvm.MethodName) jdk_42_method_55_code (1 : Nat) (Option.some Jvm.ClassFile.FieldType.boolean)) : Jvm.Cond).before a0 Z = true := hw _ (List.mem_of_getElem? (i := 49) rfl)
theorem w50 {a0 : Array Value} {Z : State} (hw : ∀ d ∈ tables_1, d.before a0 Z = true) : ((Jvm.Cond.methodLink "com/example/ortigia/ortigia/LockKeys" (33 : Nat) ({ cls := "java/lang/String", name := "indexOf", desc := "(I)I" } : Jvm.MethodName)) : Jvm.Cond).before a0 Z = true := hw _ (List.mem_of_getElem? (i := 50) rfl)
theorem w51 {a0 : Array Value} {Z : State} (hw : ∀ d ∈ tables_1, d.before a0 Z = true) : ((Jvm.Cond.declares ({ cls := "java/lang/String", name := "indexOf", desc := "(I)I" } : Jvm.MethodName)) : Jvm.Cond).before a0 Z = true := hw _ (List.mem_of_getElem? (i := 51) rfl)
theorem w52 {a0 : Array Value} {Z : State} (hw : ∀ d ∈ tables_1, d.before a0 Z = true) : ((Jvm.Cond.instanceMethod ({ cls := "java/lang/String", name := "indexOf", desc := "(I)I" } : Jvm.MethodName)) : Jvm.Cond).before a0 Z = true := hw _ (List.mem_of_getElem? (i := 52) rfl)
theorem w53 {a0 : Array Value} {Z : State} (hw : ∀ d ∈ tables_1, d.before a0 Z = true) : ((Jvm.Cond.selects "java/lang/String" ({ cls := "java/lang/String", name := "indexOf", desc := "(I)I" } : Jvm.MethodName) ({ cls := "java/lang/String", name := "indexOf", desc := "(I)I" } : Jvm.MethodName)) : Jvm.Cond).before a0 Z = true := hw _ (List.mem_of_getElem? (i := 53) rfl)
theorem w54 {a0 : Array Value} {Z : State} (hw : ∀ d ∈ tables_1, d.before a0 Z = true) : ((Jvm.Cond.code ({ cls := "java/lang/String", name := "indexOf", desc := "(I)I" } : Jvm.MethodName) jdk_42_method_79_code (2 : Nat) (Option.some Jvm.ClassFile.FieldType.int)) : Jvm.Cond).before a0 Z = true := hw _ (List.mem_of_getElem? (i := 54) rfl)
theorem w55 {a0 : Array Value} {Z : State} (hw : ∀ d ∈ tables_1, d.before a0 Z = true) : ((Jvm.Cond.methodLink "java/lang/String" (633 : Nat) ({ cls := "java/lang/String", name := "indexOf", desc := "(II)I" } : Jvm.MethodName)) : Jvm.Cond).before a0 Z = true := hw _ (List.mem_of_getElem? (i := 55) rfl)
theorem w56 {a0 : Array Value} {Z : State} (hw : ∀ d ∈ tables_1, d.before a0 Z = true) : ((Jvm.Cond.declares ({ cls := "java/lang/String", name := "indexOf", desc := "(II)I" } : Jvm.MethodName)) : Jvm.Cond).before a0 Z = true := hw _ (List.mem_of_getElem? (i := 56) rfl)
theorem w57 {a0 : Array Value} {Z : State} (hw : ∀ d ∈ tables_1, d.before a0 Z = true) : ((Jvm.Cond.instanceMethod ({ cls := "java/lang/String", name := "indexOf", desc := "(II)I" } : Jvm.MethodName)) : Jvm.Cond).before a0 Z = true := hw _ (List.mem_of_getElem? (i := 57) rfl)
theorem w58 {a0 : Array Value} {Z : State} (hw : ∀ d ∈ tables_1, d.before a0 Z = true) : ((Jvm.Cond.selects "java/lang/String" ({ cls := "java/lang/String", name := "indexOf", desc := "(II)I" } : Jvm.MethodName) ({ cls := "java/lang/String", name := "indexOf", desc := "(II)I" } : Jvm.MethodName)) : Jvm.Cond).before a0 Z = true := hw _ (List.mem_of_getElem? (i := 58) rfl)
theorem w59 {a0 : Array Value} {Z : State} (hw : ∀ d ∈ tables_1, d.before a0 Z = true) : ((Jvm.Cond.code ({ cls := "java/lang/String", name := "indexOf", desc := "(II)I" } : Jvm.MethodName) jdk_42_method_80_code (3 : Nat) (Option.some Jvm.ClassFile.FieldType.int)) : Jvm.Cond).before a0 Z = true := hw _ (List.mem_of_getElem? (i := 59) rfl)
theorem w60 {a0 : Array Value} {Z : State} (hw : ∀ d ∈ tables_1, d.before a0 Z = true) : ((Jvm.Cond.methodLink "java/lang/String" (492 : Nat) ({ cls := "java/lang/String", name := "isLatin1", desc := "()Z" } : Jvm.MethodName)) : Jvm.Cond).before a0 Z = true := hw _ (List.mem_of_getElem? (i := 60) rfl)
theorem w61 {a0 : Array Value} {Z : State} (hw : ∀ d ∈ tables_1, d.before a0 Z = true) : ((Jvm.Cond.declares ({ cls := "java/lang/String", name := "isLatin1", desc := "()Z" } : Jvm.MethodName)) : Jvm.Cond).before a0 Z = true := hw _ (List.mem_of_getElem? (i := 61) rfl)
theorem w62 {a0 : Array Value} {Z : State} (hw : ∀ d ∈ tables_1, d.before a0 Z = true) : ((Jvm.Cond.instanceMethod ({ cls := "java/lang/String", name := "isLatin1", desc := "()Z" } : Jvm.MethodName)) : Jvm.Cond).before a0 Z = true := hw _ (List.mem_of_getElem? (i := 62) rfl)
theorem w63 {a0 : Array Value} {Z : State} (hw : ∀ d ∈ tables_1, d.before a0 Z = true) : ((Jvm.Cond.selects "java/lang/String" ({ cls := "java/lang/String", name := "isLatin1", desc := "()Z" } : Jvm.MethodName) ({ cls := "java/lang/String", name := "isLatin1", desc := "()Z" } : Jvm.MethodName)) : Jvm.Cond).before a0 Z = true := hw _ (List.mem_of_getElem? (i := 63) rfl)
theorem w64 {a0 : Array Value} {Z : State} (hw : ∀ d ∈ tables_1, d.before a0 Z = true) : ((Jvm.Cond.code ({ cls := "java/lang/String", name := "isLatin1", desc := "()Z" } : Jvm.MethodName) jdk_42_method_154_code (1 : Nat) (Option.some Jvm.ClassFile.FieldType.boolean)) : Jvm.Cond).before a0 Z = true := hw _ (List.mem_of_getElem? (i := 64) rfl)
theorem w65 {a0 : Array Value} {Z : State} (hw : ∀ d ∈ tables_1, d.before a0 Z = true) : ((Jvm.Cond.methodLink "java/lang/String" (505 : Nat) ({ cls := "java/lang/String", name := "length", desc := "()I" } : Jvm.MethodName)) : Jvm.Cond).before a0 Z = true := hw _ (List.mem_of_getElem? (i := 65) rfl)
theorem w66 {a0 : Array Value} {Z : State} (hw : ∀ d ∈ tables_1, d.before a0 Z = true) : ((Jvm.Cond.declares ({ cls := "java/lang/String", name := "length", desc := "()I" } : Jvm.MethodName)) : Jvm.Cond).before a0 Z = true := hw _ (List.mem_of_getElem? (i := 66) rfl)
theorem w67 {a0 : Array Value} {Z : State} (hw : ∀ d ∈ tables_1, d.before a0 Z = true) : ((Jvm.Cond.instanceMethod ({ cls := "java/lang/String", name := "length", desc := "()I" } : Jvm.MethodName)) : Jvm.Cond).before a0 Z = true := hw _ (List.mem_of_getElem? (i := 67) rfl)
theorem w68 {a0 : Array Value} {Z : State} (hw : ∀ d ∈ tables_1, d.before a0 Z = true) : ((Jvm.Cond.selects "java/lang/String" ({ cls := "java/lang/String", name := "length", desc := "()I" } : Jvm.MethodName) ({ cls := "java/lang/String", name := "length", desc := "()I" } : Jvm.MethodName)) : Jvm.Cond).before a0 Z = true := hw _ (List.mem_of_getElem? (i := 68) rfl)
theorem w69 {a0 : Array Value} {Z : State} (hw : ∀ d ∈ tables_1, d.before a0 Z = true) : ((Jvm.Cond.code ({ cls := "java/lang/String", name := "length", desc := "()I" } : Jvm.MethodName) jdk_42_method_54_code (1 : Nat) (Option.some Jvm.ClassFile.FieldType.int)) : Jvm.Cond).before a0 Z = true := hw _ (List.mem_of_getElem? (i := 69) rfl)
theorem w70 {a0 : Array Value} {Z : State} (hw : ∀ d ∈ tables_1, d.before a0 Z = true) : ((Jvm.Cond.methodLink "java/lang/String" (335 : Nat) ({ cls := "java/lang/String", name := "coder", desc := "()B" } : Jvm.MethodName)) : Jvm.Cond).before a0 Z = true := hw _ (List.mem_of_getElem? (i := 70) rfl)
theorem w71 {a0 : Array Value} {Z : State} (hw : ∀ d ∈ tables_1, d.before a0 Z = true) : ((Jvm.Cond.declares ({ cls := "java/lang/String", name := "coder", desc := "()B" } : Jvm.MethodName)) : Jvm.Cond).before a0 Z = true := hw _ (List.mem_of_getElem? (i := 71) rfl)
theorem w72 {a0 : Array Value} {Z : State} (hw : ∀ d ∈ tables_1, d.before a0 Z = true) : ((Jvm.Cond.instanceMethod ({ cls := "java/lang/String", name := "coder", desc := "()B" } : Jvm.MethodName)) : Jvm.Cond).before a0 Z = true := hw _ (List.mem_of_getElem? (i := 72) rfl)
theorem w73 {a0 : Array Value} {Z : State} (hw : ∀ d ∈ tables_1, d.before a0 Z = true) : ((Jvm.Cond.selects "java/lang/String" ({ cls := "java/lang/String", name := "coder", desc := "()B" } : Jvm.MethodName) ({ cls := "java/lang/String", name := "coder", desc := "()B" } : Jvm.MethodName)) : Jvm.Cond).before a0 Z = true := hw _ (List.mem_of_getElem? (i := 73) rfl)
theorem w74 {a0 : Array Value} {Z : State} (hw : ∀ d ∈ tables_1, d.before a0 Z = true) : ((Jvm.Cond.code ({ cls := "java/lang/String", name := "coder", desc := "()B" } : Jvm.MethodName) jdk_42_method_152_code (1 : Nat) (Option.some Jvm.ClassFile.FieldType.byte)) : Jvm.Cond).before a0 Z = true := hw _ (List.mem_of_getElem? (i := 74) rfl)
theorem w75 {a0 : Array Value} {Z : State} (hw : ∀ d ∈ tables_1, d.before a0 Z = true) : ((Jvm.Cond.methodLink "java/lang/String" (637 : Nat) ({ cls := "java/lang/StringLatin1", name := "indexOf", desc := "([BIII)I" } : Jvm.MethodName)) : Jvm.Cond).before a0 Z = true := hw _ (List.mem_of_getElem? (i := 75) rfl)
theorem w76 {a0 : Array Value} {Z : State} (hw : ∀ d ∈ tables_1, d.before a0 Z = true) : ((Jvm.Cond.static ({ cls := "java/lang/StringLatin1", name := "indexOf", desc := "([BIII)I" } : Jvm.MethodName)) : Jvm.Cond).before a0 Z = true := hw _ (List.mem_of_getElem? (i := 76) rfl)
theorem w77 {a0 : Array Value} {Z : State} (hw : ∀ d ∈ tables_1, d.before a0 Z = true) : ((Jvm.Cond.initialized "java/lang/StringLatin1") : Jvm.Cond).before a0 Z = true := hw _ (List.mem_of_getElem? (i := 77) rfl)
theorem w78 {a0 : Array Value} {Z : State} (hw : ∀ d ∈ tables_1, d.before a0 Z = true) : ((Jvm.Cond.code ({ cls := "java/lang/StringLatin1", name := "indexOf", desc := "([BIII)I" } : Jvm.MethodName) jdk_43_method_22_code (4 : Nat) (Option.some Jvm.ClassFile.FieldType.int)) : Jvm.Cond).before a0 Z = true := hw _ (List.mem_of_getElem? (i := 78) rfl)
theorem w79 {a0 : Array Value} {Z : State} (hw : ∀ d ∈ tables_1, d.before a0 Z = true) : ((Jvm.Cond.methodLink "java/lang/StringLatin1" (88 : Nat) ({ cls := "java/lang/StringLatin1", name := "canEncode", desc := "(I)Z" } : Jvm.MethodName)) : Jvm.Cond).before a0 Z = true := hw _ (List.mem_of_getElem? (i := 79) rfl)
theorem w80 {a0 : Array Value} {Z : State} (hw : ∀ d ∈ tables_1, d.before a0 Z = true) : ((Jvm.Cond.static ({ cls := "java/lang/StringLatin1", name := "canEncode", desc := "(I)Z" } : Jvm.MethodName)) : Jvm.Cond).before a0 Z = true := hw _ (List.mem_of_getElem? (i := 80) rfl)
theorem w81 {a0 : Array Value} {Z : State} (hw : ∀ d ∈ tables_1, d.before a0 Z = true) : ((Jvm.Cond.code ({ cls := "java/lang/StringLatin1", name := "canEncode", desc := "(I)Z" } : Jvm.MethodName) jdk_43_method_4_code (1 : Nat) (Option.some Jvm.ClassFile.FieldType.boolean)) : Jvm.Cond).before a0 Z = true := hw _ (List.mem_of_getElem? (i := 81) rfl)
theorem w82 {a0 : Array Value} {Z : State} (hw : ∀ d ∈ tables_1, d.before a0 Z = true) : ((Jvm.Cond.methodLink "java/lang/StringLatin1" (92 : Nat) ({ cls := "java/lang/Math", name := "max", desc := "(II)I" } : Jvm.MethodName)) : Jvm.Cond).before a0 Z = true := hw _ (List.mem_of_getElem? (i := 82) rfl)
theorem w83 {a0 : Array Value} {Z : State} (hw : ∀ d ∈ tables_1, d.before a0 Z = true) : ((Jvm.Cond.static ({ cls := "java/lang/Math", name := "max", desc := "(II)I" } : Jvm.MethodName)) : Jvm.Cond).before a0 Z = true := hw _ (List.mem_of_getElem? (i := 83) rfl)
theorem w84 {a0 : Array Value} {Z : State} (hw : ∀ d ∈ tables_1, d.before a0 Z = true) : ((Jvm.Cond.initialized "java/lang/Math") : Jvm.Cond).before a0 Z = true := hw _ (List.mem_of_getElem? (i := 84) rfl)
theorem w85 {a0 : Array Value} {Z : State} (hw : ∀ d ∈ tables_1, d.before a0 Z = true) : ((Jvm.Cond.code ({ cls := "java/lang/Math", name := "max", desc := "(II)I" } : Jvm.MethodName) jdk_29_method_65_code (2 : Nat) (Option.some Jvm.ClassFile.FieldType.int)) : Jvm.Cond).before a0 Z = true := hw _ (List.mem_of_getElem? (i := 85) rfl)
theorem w86 {a0 : Array Value} {Z : State} (hw : ∀ d ∈ tables_1, d.before a0 Z = true) : ((Jvm.Cond.methodLink "java/lang/StringLatin1" (38 : Nat) ({ cls := "java/lang/Math", name := "min", desc := "(II)I" } : Jvm.MethodName)) : Jvm.Cond).before a0 Z = true := hw _ (List.mem_of_getElem? (i := 86) rfl)
theorem w87 {a0 : Array Value} {Z : State} (hw : ∀ d ∈ tables_1, d.before a0 Z = true) : ((Jvm.Cond.static ({ cls := "java/lang/Math", name := "min", desc := "(II)I" } : Jvm.MethodName)) : Jvm.Cond).before a0 Z = true := hw _ (List.mem_of_getElem? (i := 87) rfl)
theorem w88 {a0 : Array Value} {Z : State} (hw : ∀ d ∈ tables_1, d.before a0 Z = true) : ((Jvm.Cond.code ({ cls := "java/lang/Math", name := "min", desc := "(II)I" } : Jvm.MethodName) jdk_29_method_69_code (2 : Nat) (Option.some Jvm.ClassFile.FieldType.int)) : Jvm.Cond).before a0 Z = true := hw _ (List.mem_of_getElem? (i := 88) rfl)
theorem w89 {a0 : Array Value} {Z : State} (hw : ∀ d ∈ tables_1, d.before a0 Z = true) : ((Jvm.Cond.methodLink "java/lang/StringLatin1" (95 : Nat) ({ cls := "java/lang/StringLatin1", name := "indexOfChar", desc := "([BIII)I" } : Jvm.MethodName)) : Jvm.Cond).before a0 Z = true := hw _ (List.mem_of_getElem? (i := 89) rfl)
theorem w90 {a0 : Array Value} {Z : State} (hw : ∀ d ∈ tables_1, d.before a0 Z = true) : ((Jvm.Cond.static ({ cls := "java/lang/StringLatin1", name := "indexOfChar", desc := "([BIII)I" } : Jvm.MethodName)) : Jvm.Cond).before a0 Z = true := hw _ (List.mem_of_getElem? (i := 90) rfl)
theorem w91 {a0 : Array Value} {Z : State} (hw : ∀ d ∈ tables_1, d.before a0 Z = true) : ((Jvm.Cond.code ({ cls := "java/lang/StringLatin1", name := "indexOfChar", desc := "([BIII)I" } : Jvm.MethodName) jdk_43_method_23_code (6 : Nat) (Option.some Jvm.ClassFile.FieldType.int)) : Jvm.Cond).before a0 Z = true := hw _ (List.mem_of_getElem? (i := 91) rfl)
theorem w92 {a0 : Array Value} {Z : State} (hw : ∀ d ∈ tables_1, d.before a0 Z = true) : ((Jvm.Cond.classLink "com/example/ortigia/ortigia/LockKeys" (8 : Nat) "com/example/ortigia/ortigia/LockKeys") : Jvm.Cond).before a0 Z = true := hw _ (List.mem_of_getElem? (i := 92) rfl)
theorem w93 {a0 : Array Value} {Z : State} (hw : ∀ d ∈ tables_1, d.before a0 Z = true) : ((Jvm.Cond.instantiable "com/example/ortigia/ortigia/LockKeys" (1 : Nat)) : Jvm.Cond).before a0 Z = true := hw _ (List.mem_of_getElem? (i := 93) rfl)
theorem w94 {a0 : Array Value} {Z : State} (hw : ∀ d ∈ tables_1, d.before a0 Z = true) : ((Jvm.Cond.methodLink "com/example/ortigia/ortigia/LockKeys" (50 : Nat) ({ cls := "com/example/ortigia/ortigia/LockKeys", name := "<init>", desc := "(Ljava/lang/String;)V" } : Jvm.MethodName)) : Jvm.Cond).before a0 Z = true := hw _ (List.mem_of_getElem? (i := 94) rfl)
theorem w95 {a0 : Array Value} {Z : State} (hw : ∀ d ∈ tables_1, d.before a0 Z = true) : ((Jvm.Cond.instanceMethod ({ cls := "com/example/ortigia/ortigia/LockKeys", name := "<init>", desc := "(Ljava/lang/String;)V" } : Jvm.MethodName)) : Jvm.Cond).before a0 Z = true := hw _ (List.mem_of_getElem? (i := 95) rfl)
theorem w96 {a0 : Array Value} {Z : State} (hw : ∀ d ∈ tables_1, d.before a0 Z = true) : ((Jvm.Cond.code ({ cls := "com/example/ortigia/ortigia/LockKeys", name := "<init>", desc := "(Ljava/lang/String;)V" } : Jvm.MethodName) prog_4_method_1_code (2 : Nat) (Option.none : Option Jvm.ClassFile.FieldType)) : Jvm.Cond).before a0 Z = true := hw _ (List.mem_of_getElem? (i := 96) rfl)
theorem w97 {a0 : Array Value} {Z : State} (hw : ∀ d ∈ tables_1, d.before a0 Z = true) : ((Jvm.Cond.methodLink "com/example/ortigia/ortigia/LockKeys" (1 : Nat) ({ cls := "java/lang/Object", name := "<init>", desc := "()V" } : Jvm.MethodName)) : Jvm.Cond).before a0 Z = true := hw _ (List.mem_of_getElem? (i := 97) rfl)
theorem w98 {a0 : Array Value} {Z : State} (hw : ∀ d ∈ tables_1, d.before a0 Z = true) : ((Jvm.Cond.fieldLink "com/example/ortigia/ortigia/LockKeys" (7 : Nat) "com/example/ortigia/ortigia/LockKeys" "name" "Ljava/lang/String;") : Jvm.Cond).before a0 Z = true := hw _ (List.mem_of_getElem? (i := 98) rfl)
theorem w99 {a0 : Array Value} {Z : State} (hw : ∀ d ∈ tables_1, d.before a0 Z = true) : ((Jvm.Cond.laysFinal "com/example/ortigia/ortigia/LockKeys" "com/example/ortigia/ortigia/LockKeys" "name" "Ljava/lang/String;") : Jvm.Cond).before a0 Z = true := hw _ (List.mem_of_getElem? (i := 99) rfl)
theorem w100 {a0 : Array Value} {Z : State} (hw : ∀ d ∈ tables_1, d.before a0 Z = true) : ((Jvm.Cond.methodLink "com/example/ortigia/ortigia/LockKeysOfPinLaw" (24 : Nat) ({ cls := "com/example/ortigia/ortigia/LockKeys", name := "lockKey", desc := "()Ljava/lang/String;" } : Jvm.MethodName)) : Jvm.Cond).before a0 Z = true := hw _ (List.mem_of_getElem? (i := 100) rfl)
theorem w101 {a0 : Array Value} {Z : State} (hw : ∀ d ∈ tables_1, d.before a0 Z = true) : ((Jvm.Cond.declares ({ cls := "com/example/ortigia/ortigia/LockKeys", name := "lockKey", desc := "()Ljava/lang/String;" } : Jvm.MethodName)) : Jvm.Cond).before a0 Z = true := hw _ (List.mem_of_getElem? (i := 101) rfl)
theorem w102 {a0 : Array Value} {Z : State} (hw : ∀ d ∈ tables_1, d.before a0 Z = true) : ((Jvm.Cond.instanceMethod ({ cls := "com/example/ortigia/ortigia/LockKeys", name := "lockKey", desc := "()Ljava/lang/String;" } : Jvm.MethodName)) : Jvm.Cond).before a0 Z = true := hw _ (List.mem_of_getElem? (i := 102) rfl)
theorem w103 {a0 : Array Value} {Z : State} (hw : ∀ d ∈ tables_1, d.before a0 Z = true) : ((Jvm.Cond.selects "com/example/ortigia/ortigia/LockKeys" ({ cls := "com/example/ortigia/ortigia/LockKeys", name := "lockKey", desc := "()Ljava/lang/String;" } : Jvm.MethodName) ({ cls := "com/example/ortigia/ortigia/LockKeys", name := "lockKey", desc := "()Ljava/lang/String;" } : Jvm.MethodName)) : Jvm.Cond).before a0 Z = true := hw _ (List.mem_of_getElem? (i := 103) rfl)
theorem w104 {a0 : Array Value} {Z : State} (hw : ∀ d ∈ tables_1, d.before a0 Z = true) : ((Jvm.Cond.code ({ cls := "com/example/ortigia/ortigia/LockKeys", name := "lockKey", desc := "()Ljava/lang/String;" } : Jvm.MethodName) prog_4_method_3_code (1 : Nat) (Option.some (Jvm.ClassFile.FieldType.object "java/lang/String"))) : Jvm.Cond).before a0 Z = true := hw _ (List.mem_of_getElem? (i := 104) rfl)
theorem w105 {a0 : Array Value} {Z : State} (hw : ∀ d ∈ tables_1, d.before a0 Z = true) : ((Jvm.Cond.methodLink "com/example/ortigia/ortigia/LockKeysOfPinLaw" (28 : Nat) ({ cls := "java/lang/String", name := "equals", desc := "(Ljava/lang/Object;)Z" } : Jvm.MethodName)) : Jvm.Cond).before a0 Z = true := hw _ (List.mem_of_getElem? (i := 105) rfl)
theorem w106 {a0 : Array Value} {Z : State} (hw : ∀ d ∈ tables_1, d.before a0 Z = true) : ((Jvm.Cond.declares ({ cls := "java/lang/String", name := "equals", desc := "(Ljava/lang/Object;)Z" } : Jvm.MethodName)) : Jvm.Cond).before a0 Z = true := hw _ (List.mem_of_getElem? (i := 106) rfl)
theorem w107 {a0 : Array Value} {Z : State} (hw : ∀ d ∈ tables_1, d.before a0 Z = true) : ((Jvm.Cond.instanceMethod ({ cls := "java/lang/String", name := "equals", desc := "(Ljava/lang/Object;)Z" } : Jvm.MethodName)) : Jvm.Cond).before a0 Z = true := hw _ (List.mem_of_getElem? (i := 107) rfl)
theorem w108 {a0 : Array Value} {Z : State} (hw : ∀ d ∈ tables_1, d.before a0 Z = true) : ((Jvm.Cond.selects "java/lang/String" ({ cls := "java/lang/String", name := "equals", desc := "(Ljava/lang/Object;)Z" } : Jvm.MethodName) ({ cls := "java/lang/String", name := "equals", desc := "(Ljava/lang/Object;)Z" } : Jvm.MethodName)) : Jvm.Cond).before a0 Z = true := hw _ (List.mem_of_getElem? (i := 108) rfl)
theorem w109 {a0 : Array Value} {Z : State} (hw : ∀ d ∈ tables_1, d.before a0 Z = true) : ((Jvm.Cond.code ({ cls := "java/lang/String", name := "equals", desc := "(Ljava/lang/Object;)Z" } : Jvm.MethodName) jdk_42_method_66_code (3 : Nat) (Option.some Jvm.ClassFile.FieldType.boolean)) : Jvm.Cond).before a0 Z = true := hw _ (List.mem_of_getElem? (i := 109) rfl)
theorem w110 {a0 : Array Value} {Z : State} (hw : ∀ d ∈ tables_1, d.before a0 Z = true) : ((Jvm.Cond.stringLink "com/example/ortigia/ortigia/LockKeysOfPinLaw" (32 : Nat) "fence") : Jvm.Cond).before a0 Z = true := hw _ (List.mem_of_getElem? (i := 110) rfl)
theorem w111 {a0 : Array Value} {Z : State} (hw : ∀ d ∈ tables_1, d.before a0 Z = true) : ((Jvm.Cond.methodLink "com/example/ortigia/ortigia/LockKeysOfPinLaw" (34 : Nat) ({ cls := "com/example/ortigia/ortigia/LockKeysOfPinLaw", name := "expected", desc := "(CCCCILjava/lang/String;)Ljava/lang/String;" } : Jvm.MethodName)) : Jvm.Cond).before a0 Z = true := hw _ (List.mem_of_getElem? (i := 111) rfl)
theorem w112 {a0 : Array Value} {Z : State} (hw : ∀ d ∈ tables_1, d.before a0 Z = true) : ((Jvm.Cond.static ({ cls := "com/example/ortigia/ortigia/LockKeysOfPinLaw", name := "expected", desc := "(CCCCILjava/lang/String;)Ljava/lang/String;" } : Jvm.MethodName)) : Jvm.Cond).before a0 Z = true := hw _ (List.mem_of_getElem? (i := 112) rfl)
theorem w113 {a0 : Array Value} {Z : State} (hw : ∀ d ∈ tables_1, d.before a0 Z = true) : ((Jvm.Cond.code ({ cls := "com/example/ortigia/ortigia/LockKeysOfPinLaw", name := "expected", desc := "(CCCCILjava/lang/String;)Ljava/lang/String;" } : Jvm.MethodName) method_4_code (9 : Nat) (Option.some (Jvm.ClassFile.FieldType.object "java/lang/String"))) : Jvm.Cond).before a0 Z = true := hw _ (List.mem_of_getElem? (i := 113) rfl)
theorem w114 {a0 : Array Value} {Z : State} (hw : ∀ d ∈ tables_1, d.before a0 Z = true) : ((Jvm.Cond.methodLink "com/example/ortigia/ortigia/LockKeysOfPinLaw" (51 : Nat) ({ cls := "java/lang/String", name := "length", desc := "()I" } : Jvm.MethodName)) : Jvm.Cond).before a0 Z = true := hw _ (List.mem_of_getElem? (i := 114) rfl)
theorem w115 {a0 : Array Value} {Z : State} (hw : ∀ d ∈ tables_1, d.before a0 Z = true) : ((Jvm.Cond.methodLink "com/example/ortigia/ortigia/LockKeysOfPinLaw" (55 : Nat) ({ cls := "java/lang/String", name := "charAt", desc := "(I)C" } : Jvm.MethodName)) : Jvm.Cond).before a0 Z = true := hw _ (List.mem_of_getElem? (i := 115) rfl)
theorem w116 {a0 : Array Value} {Z : State} (hw : ∀ d ∈ tables_1, d.before a0 Z = true) : ((Jvm.Cond.declares ({ cls := "java/lang/String", name := "charAt", desc := "(I)C" } : Jvm.MethodName)) : Jvm.Cond).before a0 Z = true := hw _ (List.mem_of_getElem? (i := 116) rfl)
theorem w117 {a0 : Array Value} {Z : State} (hw : ∀ d ∈ tables_1, d.before a0 Z = true) : ((Jvm.Cond.instanceMethod ({ cls := "java/lang/String", name := "charAt", desc := "(I)C" } : Jvm.MethodName)) : Jvm.Cond).before a0 Z = true := hw _ (List.mem_of_getElem? (i := 117) rfl)
theorem w118 {a0 : Array Value} {Z : State} (hw : ∀ d ∈ tables_1, d.before a0 Z = true) : ((Jvm.Cond.selects "java/lang/String" ({ cls := "java/lang/String", name := "charAt", desc := "(I)C" } : Jvm.MethodName) ({ cls := "java/lang/String", name := "charAt", desc := "(I)C" } : Jvm.MethodName)) : Jvm.Cond).before a0 Z = true := hw _ (List.mem_of_getElem? (i := 118) rfl)
theorem w119 {a0 : Array Value} {Z : State} (hw : ∀ d ∈ tables_1, d.before a0 Z = true) : ((Jvm.Cond.code ({ cls := "java/lang/String", name := "charAt", desc := "(I)C" } : Jvm.MethodName) jdk_42_method_56_code (2 : Nat) (Option.some Jvm.ClassFile.FieldType.char)) : Jvm.Cond).before a0 Z = true := hw _ (List.mem_of_getElem? (i := 119) rfl)
theorem w120 {a0 : Array Value} {Z : State} (hw : ∀ d ∈ tables_1, d.before a0 Z = true) : ((Jvm.Cond.methodLink "java/lang/String" (495 : Nat) ({ cls := "java/lang/StringLatin1", name := "charAt", desc := "([BI)C" } : Jvm.MethodName)) : Jvm.Cond).before a0 Z = true := hw _ (List.mem_of_getElem? (i := 120) rfl)
theorem w121 {a0 : Array Value} {Z : State} (hw : ∀ d ∈ tables_1, d.before a0 Z = true) : ((Jvm.Cond.static ({ cls := "java/lang/StringLatin1", name := "charAt", desc := "([BI)C" } : Jvm.MethodName)) : Jvm.Cond).before a0 Z = true := hw _ (List.mem_of_getElem? (i := 121) rfl)
theorem w122 {a0 : Array Value} {Z : State} (hw : ∀ d ∈ tables_1, d.before a0 Z = true) : ((Jvm.Cond.code ({ cls := "java/lang/StringLatin1", name := "charAt", desc := "([BI)C" } : Jvm.MethodName) jdk_43_method_2_code (2 : Nat) (Option.some Jvm.ClassFile.FieldType.char)) : Jvm.Cond).before a0 Z = true := hw _ (List.mem_of_getElem? (i := 122) rfl)
theorem w123 {a0 : Array Value} {Z : State} (hw : ∀ d ∈ tables_1, d.before a0 Z = true) : ((Jvm.Cond.methodLink "java/lang/StringLatin1" (9 : Nat) ({ cls := "java/lang/String", name := "checkIndex", desc := "(II)V" } : Jvm.MethodName)) : Jvm.Cond).before a0 Z = true := hw _ (List.mem_of_getElem? (i := 123) rfl)
theorem w124 {a0 : Array Value} {Z : State} (hw : ∀ d ∈ tables_1, d.before a0 Z = true) : ((Jvm.Cond.static ({ cls := "java/lang/String", name := "checkIndex", desc := "(II)V" } : Jvm.MethodName)) : Jvm.Cond).before a0 Z = true := hw _ (List.mem_of_getElem? (i := 124) rfl)
theorem w125 {a0 : Array Value} {Z : State} (hw : ∀ d ∈ tables_1, d.before a0 Z = true) : ((Jvm.Cond.code ({ cls := "java/lang/String", name := "checkIndex", desc := "(II)V" } : Jvm.MethodName) jdk_42_method_155_code (2 : Nat) (Option.none : Option Jvm.ClassFile.FieldType)) : Jvm.Cond).before a0 Z = true := hw _ (List.mem_of_getElem? (i := 125) rfl)
theorem w126 {a0 : Array Value} {Z : State} (hw : ∀ d ∈ tables_1, d.before a0 Z = true) : ((Jvm.Cond.fieldLink "java/lang/String" (1053 : Nat) "jdk/internal/util/Preconditions" "SIOOBE_FORMATTER" "Ljava/util/function/BiFunction;") : Jvm.Cond).before a0 Z = true := hw _ (List.mem_of_getElem? (i := 126) rfl)
theorem w127 {a0 : Array Value} {Z : State} (hw : ∀ d ∈ tables_1, d.before a0 Z = true) : ((Jvm.Cond.initialized "jdk/internal/util/Preconditions") : Jvm.Cond).before a0 Z = true := hw _ (List.mem_of_getElem? (i := 127) rfl)
theorem w128 {a0 : Array Value} {Z : State} (hw : ∀ d ∈ tables_1, d.before a0 Z = true) : ((Jvm.Cond.methodLink "java/lang/String" (1059 : Nat) ({ cls := "jdk/internal/util/Preconditions", name := "checkIndex", desc := "(IILjava/util/function/BiFunction;)I" } : Jvm.MethodName)) : Jvm.Cond).before a0 Z = true := hw _ (List.mem_of_getElem? (i := 128) rfl)
theorem w129 {a0 : Array Value} {Z : State} (hw : ∀ d ∈ tables_1, d.before a0 Z = true) : ((Jvm.Cond.static ({ cls := "jdk/internal/util/Preconditions", name := "checkIndex", desc := "(IILjava/util/function/BiFunction;)I" } : Jvm.MethodName)) : Jvm.Cond).before a0 Z = true := hw _ (List.mem_of_getElem? (i := 129) rfl)
theorem w130 {a0 : Array Value} {Z : State} (hw : ∀ d ∈ tables_1, d.before a0 Z = true) : ((Jvm.Cond.code ({ cls := "jdk/internal/util/Preconditions", name := "checkIndex", desc := "(IILjava/util/function/BiFunction;)I" } : Jvm.MethodName) jdk_41_method_11_code (3 : Nat) (Option.some Jvm.ClassFile.FieldType.int)) : Jvm.Cond).before a0 Z = true := hw _ (List.mem_of_getElem? (i := 130) rfl)
theorem w131 {a0 : Array Value} {Z : State} (hw : ∀ d ∈ tables_1, d.before a0 Z = true) : ((Jvm.Cond.methodLink "com/example/ortigia/ortigia/LockKeysOfPinLaw" (38 : Nat) ({ cls := "com/example/ortigia/ortigia/LockKeys", name := "fenceKey", desc := "()Ljava/lang/String;" } : Jvm.MethodName)) : Jvm.Cond).before a0 Z = true := hw _ (List.mem_of_getElem? (i := 131) rfl)
theorem w132 {a0 : Array Value} {Z : State} (hw : ∀ d ∈ tables_1, d.before a0 Z = true) : ((Jvm.Cond.declares ({ cls := "com/example/ortigia/ortigia/LockKeys", name := "fenceKey", desc := "()Ljava/lang/String;" } : Jvm.MethodName)) : Jvm.Cond).before a0 Z = true := hw _ (List.mem_of_getElem? (i := 132) rfl)
theorem w133 {a0 : Array Value} {Z : State} (hw : ∀ d ∈ tables_1, d.before a0 Z = true) : ((Jvm.Cond.instanceMethod ({ cls := "com/example/ortigia/ortigia/LockKeys", name := "fenceKey", desc := "()Ljava/lang/String;" } : Jvm.MethodName)) : Jvm.Cond).before a0 Z = true := hw _ (List.mem_of_getElem? (i := 133) rfl)
theorem w134 {a0 : Array Value} {Z : State} (hw : ∀ d ∈ tables_1, d.before a0 Z = true) : ((Jvm.Cond.selects "com/example/ortigia/ortigia/LockKeys" ({ cls := "com/example/ortigia/ortigia/LockKeys", name := "fenceKey", desc := "()Ljava/lang/String;" } : Jvm.MethodName) ({ cls := "com/example/ortigia/ortigia/LockKeys", name := "fenceKey", desc := "()Ljava/lang/String;" } : Jvm.MethodName)) : Jvm.Cond).before a0 Z = true := hw _ (List.mem_of_getElem? (i := 134) rfl)
theorem w135 {a0 : Array Value} {Z : State} (hw : ∀ d ∈ tables_1, d.before a0 Z = true) : ((Jvm.Cond.code ({ cls := "com/example/ortigia/ortigia/LockKeys", name := "fenceKey", desc := "()Ljava/lang/String;" } : Jvm.MethodName) prog_4_method_4_code (1 : Nat) (Option.some (Jvm.ClassFile.FieldType.object "java/lang/String"))) : Jvm.Cond).before a0 Z = true := hw _ (List.mem_of_getElem? (i := 135) rfl)
theorem w136 {a0 : Array Value} {Z : State} (hw : ∀ d ∈ tables_1, d.before a0 Z = true) : ((Jvm.Cond.stringLink "com/example/ortigia/ortigia/LockKeys" (51 : Nat) "fence") : Jvm.Cond).before a0 Z = true := hw _ (List.mem_of_getElem? (i := 136) rfl)
theorem w137 {a0 : Array Value} {Z : State} (hw : ∀ d ∈ tables_1, d.before a0 Z = true) : ((Jvm.Cond.methodLink "com/example/ortigia/ortigia/LockKeys" (53 : Nat) ({ cls := "com/example/ortigia/ortigia/LockKeys", name := "hashTagged", desc := "(Ljava/lang/String;)Ljava/lang/String;" } : Jvm.MethodName)) : Jvm.Cond).before a0 Z = true := hw _ (List.mem_of_getElem? (i := 137) rfl)
theorem w138 {a0 : Array Value} {Z : State} (hw : ∀ d ∈ tables_1, d.before a0 Z = true) : ((Jvm.Cond.instanceMethod ({ cls := "com/example/ortigia/ortigia/LockKeys", name := "hashTagged", desc := "(Ljava/lang/String;)Ljava/lang/String;" } : Jvm.MethodName)) : Jvm.Cond).before a0 Z = true := hw _ (List.mem_of_getElem? (i := 138) rfl)
theorem w139 {a0 : Array Value} {Z : State} (hw : ∀ d ∈ tables_1, d.before a0 Z = true) : ((Jvm.Cond.privateMethod ({ cls := "com/example/ortigia/ortigia/LockKeys", name := "hashTagged", desc := "(Ljava/lang/String;)Ljava/lang/String;" } : Jvm.MethodName)) : Jvm.Cond).before a0 Z = true := hw _ (List.mem_of_getElem? (i := 139) rfl)
theorem w140 {a0 : Array Value} {Z : State} (hw : ∀ d ∈ tables_1, d.before a0 Z = true) : ((Jvm.Cond.code ({ cls := "com/example/ortigia/ortigia/LockKeys", name := "hashTagged", desc := "(Ljava/lang/String;)Ljava/lang/String;" } : Jvm.MethodName) prog_4_method_7_code (2 : Nat) (Option.some (Jvm.ClassFile.FieldType.object "java/lang/String"))) : Jvm.Cond).before a0 Z = true := hw _ (List.mem_of_getElem? (i := 140) rfl)
theorem w141 {a0 : Array Value} {Z : State} (hw : ∀ d ∈ tables_1, d.before a0 Z = true) : ((Jvm.Cond.classLink "com/example/ortigia/ortigia/LockKeys" (37 : Nat) "java/lang/StringBuilder") : Jvm.Cond).before a0 Z = true := hw _ (List.mem_of_getElem? (i := 141) rfl)
theorem w142 {a0 : Array Value} {Z : State} (hw : ∀ d ∈ tables_1, d.before a0 Z = true) : ((Jvm.Cond.instantiable "java/lang/StringBuilder" (4 : Nat)) : Jvm.Cond).before a0 Z = true := hw _ (List.mem_of_getElem? (i := 142) rfl)
theorem w143 {a0 : Array Value} {Z : State} (hw : ∀ d ∈ tables_1, d.before a0 Z = true) : ((Jvm.Cond.initialized "java/lang/StringBuilder") : Jvm.Cond).before a0 Z = true := hw _ (List.mem_of_getElem? (i := 143) rfl)
theorem w144 {a0 : Array Value} {Z : State} (hw : ∀ d ∈ tables_1, d.before a0 Z = true) : ((Jvm.Cond.methodLink "com/example/ortigia/ortigia/LockKeys" (39 : Nat) ({ cls := "java/lang/StringBuilder", name := "<init>", desc := "()V" } : Jvm.MethodName)) : Jvm.Cond).before a0 Z = true := hw _ (List.mem_of_getElem? (i := 144) rfl)
theorem w145 {a0 : Array Value} {Z : State} (hw : ∀ d ∈ tables_1, d.before a0 Z = true) : ((Jvm.Cond.instanceMethod ({ cls := "java/lang/StringBuilder", name := "<init>", desc := "()V" } : Jvm.MethodName)) : Jvm.Cond).before a0 Z = true := hw _ (List.mem_of_getElem? (i := 145) rfl)
theorem w146 {a0 : Array Value} {Z : State} (hw : ∀ d ∈ tables_1, d.before a0 Z = true) : ((Jvm.Cond.code ({ cls := "java/lang/StringBuilder", name := "<init>", desc := "()V" } : Jvm.MethodName) jdk_67_method_1_code (1 : Nat) (Option.none : Option Jvm.ClassFile.FieldType)) : Jvm.Cond).before a0 Z = true := hw _ (List.mem_of_getElem? (i := 146) rfl)
theorem w147 {a0 : Array Value} {Z : State} (hw : ∀ d ∈ tables_1, d.before a0 Z = true) : ((Jvm.Cond.methodLink "java/lang/StringBuilder" (1 : Nat) ({ cls := "java/lang/AbstractStringBuilder", name := "<init>", desc := "(I)V" } : Jvm.MethodName)) : Jvm.Cond).before a0 Z = true := hw _ (List.mem_of_getElem? (i := 147) rfl)
theorem w148 {a0 : Array Value} {Z : State} (hw : ∀ d ∈ tables_1, d.before a0 Z = true) : ((Jvm.Cond.instanceMethod ({ cls := "java/lang/AbstractStringBuilder", name := "<init>", desc := "(I)V" } : Jvm.MethodName)) : Jvm.Cond).before a0 Z = true := hw _ (List.mem_of_getElem? (i := 148) rfl)
theorem w151 {a0 : Array Value} {Z : State} (hw : ∀ d ∈ tables_1, d.before a0 Z = true) : ((Jvm.Cond.initialized "java/lang/AbstractStringBuilder") : Jvm.Cond).before a0 Z = true := hw _ (List.mem_of_getElem? (i := 151) rfl)
theorem w152 {a0 : Array Value} {Z : State} (hw : ∀ d ∈ tables_1, d.before a0 Z = true) : ((Jvm.Cond.code ({ cls := "java/lang/AbstractStringBuilder", name := "<init>", desc := "(I)V" } : Jvm.MethodName) jdk_68_method_2_code (2 : Nat) (Option.none : Option Jvm.ClassFile.FieldType)) : Jvm.Cond).before a0 Z = true := hw _ (List.mem_of_getElem? (i := 152) rfl)
theorem w153 {a0 : Array Value} {Z : State} (hw : ∀ d ∈ tables_1, d.before a0 Z = true) : ((Jvm.Cond.methodLink "java/lang/AbstractStringBuilder" (3 : Nat) ({ cls := "java/lang/Object", name := "<init>", desc := "()V" } : Jvm.MethodName)) : Jvm.Cond).before a0 Z = true := hw _ (List.mem_of_getElem? (i := 153) rfl)
theorem w154 {a0 : Array Value} {Z : State} (hw : ∀ d ∈ tables_1, d.before a0 Z = true) : ((Jvm.Cond.fieldLink "java/lang/AbstractStringBuilder" (18 : Nat) "java/lang/String" "COMPACT_STRINGS" "Z") : Jvm.Cond).before a0 Z = true := hw _ (List.mem_of_getElem? (i := 154) rfl)
theorem w155 {a0 : Array Value} {Z : State} (hw : ∀ d ∈ tables_1, d.before a0 Z = true) : ((Jvm.Cond.fieldLink "java/lang/AbstractStringBuilder" (15 : Nat) "java/lang/AbstractStringBuilder" "value" "[B") : Jvm.Cond).before a0 Z = true := hw _ (List.mem_of_getElem? (i := 155) rfl)
theorem w156 {a0 : Array Value} {Z : State} (hw : ∀ d ∈ tables_1, d.before a0 Z = true) : ((Jvm.Cond.lays "java/lang/StringBuilder" "java/lang/AbstractStringBuilder" "value" "[B") : Jvm.Cond).before a0 Z = true := hw _ (List.mem_of_getElem? (i := 156) rfl)
theorem w157 {a0 : Array Value} {Z : State} (hw : ∀ d ∈ tables_1, d.before a0 Z = true) : ((Jvm.Cond.fieldLink "java/lang/AbstractStringBuilder" (22 : Nat) "java/lang/AbstractStringBuilder" "coder" "B") : Jvm.Cond).before a0 Z = true := hw _ (List.mem_of_getElem? (i := 157) rfl)
theorem w158 {a0 : Array Value} {Z : State} (hw : ∀ d ∈ tables_1, d.before a0 Z = true) : ((Jvm.Cond.lays "java/lang/StringBuilder" "java/lang/AbstractStringBuilder" "coder" "B") : Jvm.Cond).before a0 Z = true := hw _ (List.mem_of_getElem? (i := 158) rfl)
theorem w159 {a0 : Array Value} {Z : State} (hw : ∀ d ∈ tables_1, d.before a0 Z = true) : ((Jvm.Cond.stringLink "com/example/ortigia/ortigia/LockKeys" (61 : Nat) "{") : Jvm.Cond).before a0 Z = true := hw _ (List.mem_of_getElem? (i := 159) rfl)
theorem w160 {a0 : Array Value} {Z : State} (hw : ∀ d ∈ tables_1, d.before a0 Z = true) : ((Jvm.Cond.methodLink "com/example/ortigia/ortigia/LockKeys" (42 : Nat) ({ cls := "java/lang/StringBuilder", name := "append", desc := "(Ljava/lang/String;)Ljava/lang/StringBuilder;" } : Jvm.MethodName)) : Jvm.Cond).before a0 Z = true := hw _ (List.mem_of_getElem? (i := 160) rfl)
theorem w161 {a0 : Array Value} {Z : State} (hw : ∀ d ∈ tables_1, d.before a0 Z = true) : ((Jvm.Cond.declares ({ cls := "java/lang/StringBuilder", name := "append", desc := "(Ljava/lang/String;)Ljava/lang/StringBuilder;" } : Jvm.MethodName)) : Jvm.Cond).before a0 Z = true := hw _ (List.mem_of_getElem? (i := 161) rfl)
theorem w162 {a0 : Array Value} {Z : State} (hw : ∀ d ∈ tables_1, d.before a0 Z = true) : ((Jvm.Cond.instanceMethod ({ cls := "java/lang/StringBuilder", name := "append", desc := "(Ljava/lang/String;)Ljava/lang/StringBuilder;" } : Jvm.MethodName)) : Jvm.Cond).before a0 Z = true := hw _ (List.mem_of_getElem? (i := 162) rfl)
theorem w163 {a0 : Array Value} {Z : State} (hw : ∀ d ∈ tables_1, d.before a0 Z = true) : ((Jvm.Cond.selects "java/lang/StringBuilder" ({ cls := "java/lang/StringBuilder", name := "append", desc := "(Ljava/lang/String;)Ljava/lang/StringBuilder;" } : Jvm.MethodName) ({ cls := "java/lang/StringBuilder", name := "append", desc := "(Ljava/lang/String;)Ljava/lang/StringBuilder;" } : Jvm.MethodName)) : Jvm.Cond).before a0 Z = true := hw _ (List.mem_of_getElem? (i := 163) rfl)
theorem w164 {a0 : Array Value} {Z : State} (hw : ∀ d ∈ tables_1, d.before a0 Z = true) : ((Jvm.Cond.code ({ cls := "java/lang/StringBuilder", name := "append", desc := "(Ljava/lang/String;)Ljava/lang/StringBuilder;" } : Jvm.MethodName) jdk_67_method_7_code (2 : Nat) (Option.some (Jvm.ClassFile.FieldType.object "java/lang/StringBuilder"))) : Jvm.Cond).before a0 Z = true := hw _ (List.mem_of_getElem? (i := 164) rfl)
theorem w165 {a0 : Array Value} {Z : State} (hw : ∀ d ∈ tables_1, d.before a0 Z = true) : ((Jvm.Cond.methodLink "java/lang/StringBuilder" (29 : Nat) ({ cls := "java/lang/AbstractStringBuilder", name := "append", desc := "(Ljava/lang/String;)Ljava/lang/AbstractStringBuilder;" } : Jvm.MethodName)) : Jvm.Cond).before a0 Z = true := hw _ (List.mem_of_getElem? (i := 165) rfl)
theorem w166 {a0 : Array Value} {Z : State} (hw : ∀ d ∈ tables_1, d.before a0 Z = true) : ((Jvm.Cond.instanceMethod ({ cls := "java/lang/AbstractStringBuilder", name := "append", desc := "(Ljava/lang/String;)Ljava/lang/AbstractStringBuilder;" } : Jvm.MethodName)) : Jvm.Cond).before a0 Z = true := hw _ (List.mem_of_getElem? (i := 166) rfl)
theorem w167 {a0 : Array Value} {Z : State} (hw : ∀ d ∈ tables_1, d.before a0 Z = true) : ((Jvm.Cond.superclass "java/lang/StringBuilder" "java/lang/AbstractStringBuilder") : Jvm.Cond).before a0 Z = true := hw _ (List.mem_of_getElem? (i := 167) rfl)
theorem w169 {a0 : Array Value} {Z : State} (hw : ∀ d ∈ tables_1, d.before a0 Z = true) : ((Jvm.Cond.code ({ cls := "java/lang/AbstractStringBuilder", name := "append", desc := "(Ljava/lang/String;)Ljava/lang/AbstractStringBuilder;" } : Jvm.MethodName) jdk_68_method_22_code (3 : Nat) (Option.some (Jvm.ClassFile.FieldType.object "java/lang/AbstractStringBuilder"))) : Jvm.Cond).before a0 Z = true := hw _ (List.mem_of_getElem? (i := 169) rfl)
theorem w170 {a0 : Array Value} {Z : State} (hw : ∀ d ∈ tables_1, d.before a0 Z = true) : ((Jvm.Cond.methodLink "java/lang/AbstractStringBuilder" (32 : Nat) ({ cls := "java/lang/String", name := "length", desc := "()I" } : Jvm.MethodName)) : Jvm.Cond).before a0 Z = true := hw _ (List.mem_of_getElem? (i := 170) rfl)
theorem w171 {a0 : Array Value} {Z : State} (hw : ∀ d ∈ tables_1, d.before a0 Z = true) : ((Jvm.Cond.fieldLink "java/lang/AbstractStringBuilder" (79 : Nat) "java/lang/AbstractStringBuilder" "count" "I") : Jvm.Cond).before a0 Z = true := hw _ (List.mem_of_getElem? (i := 171) rfl)
theorem w172 {a0 : Array Value} {Z : State} (hw : ∀ d ∈ tables_1, d.before a0 Z = true) : ((Jvm.Cond.lays "java/lang/StringBuilder" "java/lang/AbstractStringBuilder" "count" "I") : Jvm.Cond).before a0 Z = true := hw _ (List.mem_of_getElem? (i := 172) rfl)
theorem w173 {a0 : Array Value} {Z : State} (hw : ∀ d ∈ tables_1, d.before a0 Z = true) : ((Jvm.Cond.methodLink "java/lang/AbstractStringBuilder" (100 : Nat) ({ cls := "java/lang/AbstractStringBuilder", name := "ensureCapacityInternal", desc := "(I)V" } : Jvm.MethodName)) : Jvm.Cond).before a0 Z = true := hw _ (List.mem_of_getElem? (i := 173) rfl)
theorem w174 {a0 : Array Value} {Z : State} (hw : ∀ d ∈ tables_1, d.before a0 Z = true) : ((Jvm.Cond.instanceMethod ({ cls := "java/lang/AbstractStringBuilder", name := "ensureCapacityInternal", desc := "(I)V" } : Jvm.MethodName)) : Jvm.Cond).before a0 Z = true := hw _ (List.mem_of_getElem? (i := 174) rfl)
theorem w175 {a0 : Array Value} {Z : State} (hw : ∀ d ∈ tables_1, d.before a0 Z = true) : ((Jvm.Cond.privateMethod ({ cls := "java/lang/AbstractStringBuilder", name := "ensureCapacityInternal", desc := "(I)V" } : Jvm.MethodName)) : Jvm.Cond).before a0 Z = true := hw _ (List.mem_of_getElem? (i := 175) rfl)
theorem w176 {a0 : Array Value} {Z : State} (hw : ∀ d ∈ tables_1, d.before a0 Z = true) : ((Jvm.Cond.selects "java/lang/StringBuilder" ({ cls := "java/lang/AbstractStringBuilder", name := "ensureCapacityInternal", desc := "(I)V" } : Jvm.MethodName) ({ cls := "java/lang/AbstractStringBuilder", name := "ensureCapacityInternal", desc := "(I)V" } : Jvm.MethodName)) : Jvm.Cond).before a0 Z = true := hw _ (List.mem_of_getElem? (i := 176) rfl)
theorem w177 {a0 : Array Value} {Z : State} (hw : ∀ d ∈ tables_1, d.before a0 Z = true) : ((Jvm.Cond.code ({ cls := "java/lang/AbstractStringBuilder", name := "ensureCapacityInternal", desc := "(I)V" } : Jvm.MethodName) jdk_68_method_9_code (3 : Nat) (Option.none : Option Jvm.ClassFile.FieldType)) : Jvm.Cond).before a0 Z = true := hw _ (List.mem_of_getElem? (i := 177) rfl)
theorem w178 {a0 : Array Value} {Z : State} (hw : ∀ d ∈ tables_1, d.before a0 Z = true) : ((Jvm.Cond.methodLink "java/lang/AbstractStringBuilder" (208 : Nat) ({ cls := "java/lang/AbstractStringBuilder", name := "putStringAt", desc := "(ILjava/lang/String;)V" } : Jvm.MethodName)) : Jvm.Cond).before a0 Z = true := hw _ (List.mem_of_getElem? (i := 178) rfl)
theorem w179 {a0 : Array Value} {Z : State} (hw : ∀ d ∈ tables_1, d.before a0 Z = true) : ((Jvm.Cond.instanceMethod ({ cls := "java/lang/AbstractStringBuilder", name := "putStringAt", desc := "(ILjava/lang/String;)V" } : Jvm.MethodName)) : Jvm.Cond).before a0 Z = true := hw _ (List.mem_of_getElem? (i := 179) rfl)
theorem w180 {a0 : Array Value} {Z : State} (hw : ∀ d ∈ tables_1, d.before a0 Z = true) : ((Jvm.Cond.privateMethod ({ cls := "java/lang/AbstractStringBuilder", name := "putStringAt", desc := "(ILjava/lang/String;)V" } : Jvm.MethodName)) : Jvm.Cond).before a0 Z = true := hw _ (List.mem_of_getElem? (i := 180) rfl)
theorem w182 {a0 : Array Value} {Z : State} (hw : ∀ d ∈ tables_1, d.before a0 Z = true) : ((Jvm.Cond.code ({ cls := "java/lang/AbstractStringBuilder", name := "putStringAt", desc := "(ILjava/lang/String;)V" } : Jvm.MethodName) jdk_68_method_73_code (3 : Nat) (Option.none : Option Jvm.ClassFile.FieldType)) : Jvm.Cond).before a0 Z = true := hw _ (List.mem_of_getElem? (i := 182) rfl)
theorem w183 {a0 : Array Value} {Z : State} (hw : ∀ d ∈ tables_1, d.before a0 Z = true) : ((Jvm.Cond.methodLink "java/lang/AbstractStringBuilder" (397 : Nat) ({ cls := "java/lang/AbstractStringBuilder", name := "inflateIfNeededFor", desc := "(Ljava/lang/String;)V" } : Jvm.MethodName)) : Jvm.Cond).before a0 Z = true := hw _ (List.mem_of_getElem? (i := 183) rfl)
theorem w184 {a0 : Array Value} {Z : State} (hw : ∀ d ∈ tables_1, d.before a0 Z = true) : ((Jvm.Cond.instanceMethod ({ cls := "java/lang/AbstractStringBuilder", name := "inflateIfNeededFor", desc := "(Ljava/lang/String;)V" } : Jvm.MethodName)) : Jvm.Cond).before a0 Z = true := hw _ (List.mem_of_getElem? (i := 184) rfl)
theorem w185 {a0 : Array Value} {Z : State} (hw : ∀ d ∈ tables_1, d.before a0 Z = true) : ((Jvm.Cond.privateMethod ({ cls := "java/lang/AbstractStringBuilder", name := "inflateIfNeededFor", desc := "(Ljava/lang/String;)V" } : Jvm.MethodName)) : Jvm.Cond).before a0 Z = true := hw _ (List.mem_of_getElem? (i := 185) rfl)
theorem w187 {a0 : Array Value} {Z : State} (hw : ∀ d ∈ tables_1, d.before a0 Z = true) : ((Jvm.Cond.code ({ cls := "java/lang/AbstractStringBuilder", name := "inflateIfNeededFor", desc := "(Ljava/lang/String;)V" } : Jvm.MethodName) jdk_68_method_71_code (2 : Nat) (Option.none : Option Jvm.ClassFile.FieldType)) : Jvm.Cond).before a0 Z = true := hw _ (List.mem_of_getElem? (i := 187) rfl)
theorem w188 {a0 : Array Value} {Z : State} (hw : ∀ d ∈ tables_1, d.before a0 Z = true) : ((Jvm.Cond.methodLink "java/lang/AbstractStringBuilder" (40 : Nat) ({ cls := "java/lang/String", name := "coder", desc := "()B" } : Jvm.MethodName)) : Jvm.Cond).before a0 Z = true := hw _ (List.mem_of_getElem? (i := 188) rfl)
theorem w189 {a0 : Array Value} {Z : State} (hw : ∀ d ∈ tables_1, d.before a0 Z = true) : ((Jvm.Cond.methodLink "java/lang/AbstractStringBuilder" (399 : Nat) ({ cls := "java/lang/String", name := "getBytes", desc := "([BIB)V" } : Jvm.MethodName)) : Jvm.Cond).before a0 Z = true := hw _ (List.mem_of_getElem? (i := 189) rfl)
theorem w190 {a0 : Array Value} {Z : State} (hw : ∀ d ∈ tables_1, d.before a0 Z = true) : ((Jvm.Cond.declares ({ cls := "java/lang/String", name := "getBytes", desc := "([BIB)V" } : Jvm.MethodName)) : Jvm.Cond).before a0 Z = true := hw _ (List.mem_of_getElem? (i := 190) rfl)
theorem w191 {a0 : Array Value} {Z : State} (hw : ∀ d ∈ tables_1, d.before a0 Z = true) : ((Jvm.Cond.instanceMethod ({ cls := "java/lang/String", name := "getBytes", desc := "([BIB)V" } : Jvm.MethodName)) : Jvm.Cond).before a0 Z = true := hw _ (List.mem_of_getElem? (i := 191) rfl)
theorem w192 {a0 : Array Value} {Z : State} (hw : ∀ d ∈ tables_1, d.before a0 Z = true) : ((Jvm.Cond.selects "java/lang/String" ({ cls := "java/lang/String", name := "getBytes", desc := "([BIB)V" } : Jvm.MethodName) ({ cls := "java/lang/String", name := "getBytes", desc := "([BIB)V" } : Jvm.MethodName)) : Jvm.Cond).before a0 Z = true := hw _ (List.mem_of_getElem? (i := 192) rfl)
theorem w193 {a0 : Array Value} {Z : State} (hw : ∀ d ∈ tables_1, d.before a0 Z = true) : ((Jvm.Cond.code ({ cls := "java/lang/String", name := "getBytes", desc := "([BIB)V" } : Jvm.MethodName) jdk_42_method_147_code (4 : Nat) (Option.none : Option Jvm.ClassFile.FieldType)) : Jvm.Cond).before a0 Z = true := hw _ (List.mem_of_getElem? (i := 193) rfl)
theorem w194 {a0 : Array Value} {Z : State} (hw : ∀ d ∈ tables_1, d.before a0 Z = true) : ((Jvm.Cond.methodLink "java/lang/String" (212 : Nat) ({ cls := "java/lang/System", name := "arraycopy", desc := "(Ljava/lang/Object;ILjava/lang/Object;II)V" } : Jvm.MethodName)) : Jvm.Cond).before a0 Z = true := hw _ (List.mem_of_getElem? (i := 194) rfl)
theorem w195 {a0 : Array Value} {Z : State} (hw : ∀ d ∈ tables_1, d.before a0 Z = true) : ((Jvm.Cond.static ({ cls := "java/lang/System", name := "arraycopy", desc := "(Ljava/lang/Object;ILjava/lang/Object;II)V" } : Jvm.MethodName)) : Jvm.Cond).before a0 Z = true := hw _ (List.mem_of_getElem? (i := 195) rfl)
theorem w196 {a0 : Array Value} {Z : State} (hw : ∀ d ∈ tables_1, d.before a0 Z = true) : ((Jvm.Cond.initialized "java/lang/System") : Jvm.Cond).before a0 Z = true := hw _ (List.mem_of_getElem? (i := 196) rfl)
theorem w197 {a0 : Array Value} {Z : State} (hw : ∀ d ∈ tables_1, d.before a0 Z = true) : ((Jvm.Cond.native ({ cls := "java/lang/System", name := "arraycopy", desc := "(Ljava/lang/Object;ILjava/lang/Object;II)V" } : Jvm.MethodName)) : Jvm.Cond).before a0 Z = true := hw _ (List.mem_of_getElem? (i := 197) rfl)
theorem w198 {a0 : Array Value} {Z : State} (hw : ∀ d ∈ tables_1, d.before a0 Z = true) : ((Jvm.Cond.stringLink "com/example/ortigia/ortigia/LockKeys" (63 : Nat) "}:") : Jvm.Cond).before a0 Z = true := hw _ (List.mem_of_getElem? (i := 198) rfl)
theorem w199 {a0 : Array Value} {Z : State} (hw : ∀ d ∈ tables_1, d.before a0 Z = true) : ((Jvm.Cond.methodLink "com/example/ortigia/ortigia/LockKeys" (46 : Nat) ({ cls := "java/lang/StringBuilder", name := "toString", desc := "()Ljava/lang/String;" } : Jvm.MethodName)) : Jvm.Cond).before a0 Z = true := hw _ (List.mem_of_getElem? (i := 199) rfl)
theorem w200 {a0 : Array Value} {Z : State} (hw : ∀ d ∈ tables_1, d.before a0 Z = true) : ((Jvm.Cond.declares ({ cls := "java/lang/StringBuilder", name := "toString", desc := "()Ljava/lang/String;" } : Jvm.MethodName)) : Jvm.Cond).before a0 Z = true := hw _ (List.mem_of_getElem? (i := 200) rfl)
theorem w201 {a0 : Array Value} {Z : State} (hw : ∀ d ∈ tables_1, d.before a0 Z = true) : ((Jvm.Cond.instanceMethod ({ cls := "java/lang/StringBuilder", name := "toString", desc := "()Ljava/lang/String;" } : Jvm.MethodName)) : Jvm.Cond).before a0 Z = true := hw _ (List.mem_of_getElem? (i := 201) rfl)
theorem w202 {a0 : Array Value} {Z : State} (hw : ∀ d ∈ tables_1, d.before a0 Z = true) : ((Jvm.Cond.selects "java/lang/StringBuilder" ({ cls := "java/lang/StringBuilder", name := "toString", desc := "()Ljava/lang/String;" } : Jvm.MethodName) ({ cls := "java/lang/StringBuilder", name := "toString", desc := "()Ljava/lang/String;" } : Jvm.MethodName)) : Jvm.Cond).before a0 Z = true := hw _ (List.mem_of_getElem? (i := 202) rfl)
theorem w203 {a0 : Array Value} {Z : State} (hw : ∀ d ∈ tables_1, d.before a0 Z = true) : ((Jvm.Cond.code ({ cls := "java/lang/StringBuilder", name := "toString", desc := "()Ljava/lang/String;" } : Jvm.MethodName) jdk_67_method_42_code (1 : Nat) (Option.some (Jvm.ClassFile.FieldType.object "java/lang/String"))) : Jvm.Cond).before a0 Z = true := hw _ (List.mem_of_getElem? (i := 203) rfl)
theorem w204 {a0 : Array Value} {Z : State} (hw : ∀ d ∈ tables_1, d.before a0 Z = true) : ((Jvm.Cond.classLink "java/lang/StringBuilder" (18 : Nat) "java/lang/String") : Jvm.Cond).before a0 Z = true := hw _ (List.mem_of_getElem? (i := 204) rfl)
theorem w205 {a0 : Array Value} {Z : State} (hw : ∀ d ∈ tables_1, d.before a0 Z = true) : ((Jvm.Cond.methodLink "java/lang/StringBuilder" (137 : Nat) ({ cls := "java/lang/String", name := "<init>", desc := "(Ljava/lang/StringBuilder;)V" } : Jvm.MethodName)) : Jvm.Cond).before a0 Z = true := hw _ (List.mem_of_getElem? (i := 205) rfl)
theorem w206 {a0 : Array Value} {Z : State} (hw : ∀ d ∈ tables_1, d.before a0 Z = true) : ((Jvm.Cond.instanceMethod ({ cls := "java/lang/String", name := "<init>", desc := "(Ljava/lang/StringBuilder;)V" } : Jvm.MethodName)) : Jvm.Cond).before a0 Z = true := hw _ (List.mem_of_getElem? (i := 206) rfl)
theorem w207 {a0 : Array Value} {Z : State} (hw : ∀ d ∈ tables_1, d.before a0 Z = true) : ((Jvm.Cond.code ({ cls := "java/lang/String", name := "<init>", desc := "(Ljava/lang/StringBuilder;)V" } : Jvm.MethodName) jdk_42_method_53_code (2 : Nat) (Option.none : Option Jvm.ClassFile.FieldType)) : Jvm.Cond).before a0 Z = true := hw _ (List.mem_of_getElem? (i := 207) rfl)
theorem w208 {a0 : Array Value} {Z : State} (hw : ∀ d ∈ tables_1, d.before a0 Z = true) : ((Jvm.Cond.methodLink "java/lang/String" (489 : Nat) ({ cls := "java/lang/String", name := "<init>", desc := "(Ljava/lang/AbstractStringBuilder;Ljava/lang/Void;)V" } : Jvm.MethodName)) : Jvm.Cond).before a0 Z = true := hw _ (List.mem_of_getElem? (i := 208) rfl)
theorem w209 {a0 : Array Value} {Z : State} (hw : ∀ d ∈ tables_1, d.before a0 Z = true) : ((Jvm.Cond.instanceMethod ({ cls := "java/lang/String", name := "<init>", desc := "(Ljava/lang/AbstractStringBuilder;Ljava/lang/Void;)V" } : Jvm.MethodName)) : Jvm.Cond).before a0 Z = true := hw _ (List.mem_of_getElem? (i := 209) rfl)
theorem w210 {a0 : Array Value} {Z : State} (hw : ∀ d ∈ tables_1, d.before a0 Z = true) : ((Jvm.Cond.code ({ cls := "java/lang/String", name := "<init>", desc := "(Ljava/lang/AbstractStringBuilder;Ljava/lang/Void;)V" } : Jvm.MethodName) jdk_42_method_150_code (5 : Nat) (Option.none : Option Jvm.ClassFile.FieldType)) : Jvm.Cond).before a0 Z = true := hw _ (List.mem_of_getElem? (i := 210) rfl)
theorem w211 {a0 : Array Value} {Z : State} (hw : ∀ d ∈ tables_1, d.before a0 Z = true) : ((Jvm.Cond.methodLink "java/lang/String" (552 : Nat) ({ cls := "java/lang/AbstractStringBuilder", name := "getValue", desc := "()[B" } : Jvm.MethodName)) : Jvm.Cond).before a0 Z = true := hw _ (List.mem_of_getElem? (i := 211) rfl)
theorem w212 {a0 : Array Value} {Z : State} (hw : ∀ d ∈ tables_1, d.before a0 Z = true) : ((Jvm.Cond.declares ({ cls := "java/lang/AbstractStringBuilder", name := "getValue", desc := "()[B" } : Jvm.MethodName)) : Jvm.Cond).before a0 Z = true := hw _ (List.mem_of_getElem? (i := 212) rfl)
theorem w213 {a0 : Array Value} {Z : State} (hw : ∀ d ∈ tables_1, d.before a0 Z = true) : ((Jvm.Cond.instanceMethod ({ cls := "java/lang/AbstractStringBuilder", name := "getValue", desc := "()[B" } : Jvm.MethodName)) : Jvm.Cond).before a0 Z = true := hw _ (List.mem_of_getElem? (i := 213) rfl)
theorem w214 {a0 : Array Value} {Z : State} (hw : ∀ d ∈ tables_1, d.before a0 Z = true) : ((Jvm.Cond.selects "java/lang/StringBuilder" ({ cls := "java/lang/AbstractStringBuilder", name := "getValue", desc := "()[B" } : Jvm.MethodName) ({ cls := "java/lang/AbstractStringBuilder", name := "getValue", desc := "()[B" } : Jvm.MethodName)) : Jvm.Cond).before a0 Z = true := hw _ (List.mem_of_getElem? (i := 214) rfl)
theorem w215 {a0 : Array Value} {Z : State} (hw : ∀ d ∈ tables_1, d.before a0 Z = true) : ((Jvm.Cond.code ({ cls := "java/lang/AbstractStringBuilder", name := "getValue", desc := "()[B" } : Jvm.MethodName) jdk_68_method_64_code (1 : Nat) (Option.some (Jvm.ClassFile.FieldType.array Jvm.ClassFile.FieldType.byte))) : Jvm.Cond).before a0 Z = true := hw _ (List.mem_of_getElem? (i := 215) rfl)
theorem w216 {a0 : Array Value} {Z : State} (hw : ∀ d ∈ tables_1, d.before a0 Z = true) : ((Jvm.Cond.methodLink "java/lang/String" (549 : Nat) ({ cls := "java/lang/AbstractStringBuilder", name := "length", desc := "()I" } : Jvm.MethodName)) : Jvm.Cond).before a0 Z = true := hw _ (List.mem_of_getElem? (i := 216) rfl)
theorem w217 {a0 : Array Value} {Z : State} (hw : ∀ d ∈ tables_1, d.before a0 Z = true) : ((Jvm.Cond.declares ({ cls := "java/lang/AbstractStringBuilder", name := "length", desc := "()I" } : Jvm.MethodName)) : Jvm.Cond).before a0 Z = true := hw _ (List.mem_of_getElem? (i := 217) rfl)
theorem w218 {a0 : Array Value} {Z : State} (hw : ∀ d ∈ tables_1, d.before a0 Z = true) : ((Jvm.Cond.instanceMethod ({ cls := "java/lang/AbstractStringBuilder", name := "length", desc := "()I" } : Jvm.MethodName)) : Jvm.Cond).before a0 Z = true := hw _ (List.mem_of_getElem? (i := 218) rfl)
theorem w219 {a0 : Array Value} {Z : State} (hw : ∀ d ∈ tables_1, d.before a0 Z = true) : ((Jvm.Cond.selects "java/lang/StringBuilder" ({ cls := "java/lang/AbstractStringBuilder", name := "length", desc := "()I" } : Jvm.MethodName) ({ cls := "java/lang/StringBuilder", name := "length", desc := "()I" } : Jvm.MethodName)) : Jvm.Cond).before a0 Z = true := hw _ (List.mem_of_getElem? (i := 219) rfl)
theorem w220 {a0 : Array Value} {Z : State} (hw : ∀ d ∈ tables_1, d.before a0 Z = true) : ((Jvm.Cond.instanceMethod ({ cls := "java/lang/StringBuilder", name := "length", desc := "()I" } : Jvm.MethodName)) : Jvm.Cond).before a0 Z = true := hw _ (List.mem_of_getElem? (i := 220) rfl)
theorem w221 {a0 : Array Value} {Z : State} (hw : ∀ d ∈ tables_1, d.before a0 Z = true) : ((Jvm.Cond.code ({ cls := "java/lang/StringBuilder", name := "length", desc := "()I" } : Jvm.MethodName) jdk_67_method_93_code (1 : Nat) (Option.some Jvm.ClassFile.FieldType.int)) : Jvm.Cond).before a0 Z = true := hw _ (List.mem_of_getElem? (i := 221) rfl)
theorem w222 {a0 : Array Value} {Z : State} (hw : ∀ d ∈ tables_1, d.before a0 Z = true) : ((Jvm.Cond.methodLink "java/lang/StringBuilder" (343 : Nat) ({ cls := "java/lang/AbstractStringBuilder", name := "length", desc := "()I" } : Jvm.MethodName)) : Jvm.Cond).before a0 Z = true := hw _ (List.mem_of_getElem? (i := 222) rfl)
theorem w223 {a0 : Array Value} {Z : State} (hw : ∀ d ∈ tables_1, d.before a0 Z = true) : ((Jvm.Cond.code ({ cls := "java/lang/AbstractStringBuilder", name := "length", desc := "()I" } : Jvm.MethodName) jdk_68_method_6_code (1 : Nat) (Option.some Jvm.ClassFile.FieldType.int)) : Jvm.Cond).before a0 Z = true := hw _ (List.mem_of_getElem? (i := 223) rfl)
theorem w224 {a0 : Array Value} {Z : State} (hw : ∀ d ∈ tables_1, d.before a0 Z = true) : ((Jvm.Cond.methodLink "java/lang/String" (1047 : Nat) ({ cls := "java/lang/AbstractStringBuilder", name := "isLatin1", desc := "()Z" } : Jvm.MethodName)) : Jvm.Cond).before a0 Z = true := hw _ (List.mem_of_getElem? (i := 224) rfl)
theorem w225 {a0 : Array Value} {Z : State} (hw : ∀ d ∈ tables_1, d.before a0 Z = true) : ((Jvm.Cond.declares ({ cls := "java/lang/AbstractStringBuilder", name := "isLatin1", desc := "()Z" } : Jvm.MethodName)) : Jvm.Cond).before a0 Z = true := hw _ (List.mem_of_getElem? (i := 225) rfl)
theorem w226 {a0 : Array Value} {Z : State} (hw : ∀ d ∈ tables_1, d.before a0 Z = true) : ((Jvm.Cond.instanceMethod ({ cls := "java/lang/AbstractStringBuilder", name := "isLatin1", desc := "()Z" } : Jvm.MethodName)) : Jvm.Cond).before a0 Z = true := hw _ (List.mem_of_getElem? (i := 226) rfl)
theorem w227 {a0 : Array Value} {Z : State} (hw : ∀ d ∈ tables_1, d.before a0 Z = true) : ((Jvm.Cond.selects "java/lang/StringBuilder" ({ cls := "java/lang/AbstractStringBuilder", name := "isLatin1", desc := "()Z" } : Jvm.MethodName) ({ cls := "java/lang/AbstractStringBuilder", name := "isLatin1", desc := "()Z" } : Jvm.MethodName)) : Jvm.Cond).before a0 Z = true := hw _ (List.mem_of_getElem? (i := 227) rfl)
theorem w228 {a0 : Array Value} {Z : State} (hw : ∀ d ∈ tables_1, d.before a0 Z = true) : ((Jvm.Cond.code ({ cls := "java/lang/AbstractStringBuilder", name := "isLatin1", desc := "()Z" } : Jvm.MethodName) jdk_68_method_68_code (1 : Nat) (Option.some Jvm.ClassFile.FieldType.boolean)) : Jvm.Cond).before a0 Z = true := hw _ (List.mem_of_getElem? (i := 228) rfl)
theorem w229 {a0 : Array Value} {Z : State} (hw : ∀ d ∈ tables_1, d.before a0 Z = true) : ((Jvm.Cond.methodLink "java/lang/String" (54 : Nat) ({ cls := "java/util/Arrays", name := "copyOfRange", desc := "([BII)[B" } : Jvm.MethodName)) : Jvm.Cond).before a0 Z = true := hw _ (List.mem_of_getElem? (i := 229) rfl)
theorem w230 {a0 : Array Value} {Z : State} (hw : ∀ d ∈ tables_1, d.before a0 Z = true) : ((Jvm.Cond.static ({ cls := "java/util/Arrays", name := "copyOfRange", desc := "([BII)[B" } : Jvm.MethodName)) : Jvm.Cond).before a0 Z = true := hw _ (List.mem_of_getElem? (i := 230) rfl)
theorem w231 {a0 : Array Value} {Z : State} (hw : ∀ d ∈ tables_1, d.before a0 Z = true) : ((Jvm.Cond.initialized "java/util/Arrays") : Jvm.Cond).before a0 Z = true := hw _ (List.mem_of_getElem? (i := 231) rfl)
theorem w232 {a0 : Array Value} {Z : State} (hw : ∀ d ∈ tables_1, d.before a0 Z = true) : ((Jvm.Cond.code ({ cls := "java/util/Arrays", name := "copyOfRange", desc := "([BII)[B" } : Jvm.MethodName) jdk_65_method_132_code (3 : Nat) (Option.some (Jvm.ClassFile.FieldType.array Jvm.ClassFile.FieldType.byte))) : Jvm.Cond).before a0 Z = true := hw _ (List.mem_of_getElem? (i := 232) rfl)
theorem w233 {a0 : Array Value} {Z : State} (hw : ∀ d ∈ tables_1, d.before a0 Z = true) : ((Jvm.Cond.methodLink "java/util/Arrays" (339 : Nat) ({ cls := "java/util/Arrays", name := "copyOfRangeByte", desc := "([BII)[B" } : Jvm.MethodName)) : Jvm.Cond).before a0 Z = true := hw _ (List.mem_of_getElem? (i := 233) rfl)
theorem w234 {a0 : Array Value} {Z : State} (hw : ∀ d ∈ tables_1, d.before a0 Z = true) : ((Jvm.Cond.static ({ cls := "java/util/Arrays", name := "copyOfRangeByte", desc := "([BII)[B" } : Jvm.MethodName)) : Jvm.Cond).before a0 Z = true := hw _ (List.mem_of_getElem? (i := 234) rfl)
theorem w235 {a0 : Array Value} {Z : State} (hw : ∀ d ∈ tables_1, d.before a0 Z = true) : ((Jvm.Cond.code ({ cls := "java/util/Arrays", name := "copyOfRangeByte", desc := "([BII)[B" } : Jvm.MethodName) jdk_65_method_133_code (5 : Nat) (Option.some (Jvm.ClassFile.FieldType.array Jvm.ClassFile.FieldType.byte))) : Jvm.Cond).before a0 Z = true := hw _ (List.mem_of_getElem? (i := 235) rfl)
theorem w236 {a0 : Array Value} {Z : State} (hw : ∀ d ∈ tables_1, d.before a0 Z = true) : ((Jvm.Cond.methodLink "java/util/Arrays" (343 : Nat) ({ cls := "java/util/Arrays", name := "checkLength", desc := "(II)V" } : Jvm.MethodName)) : Jvm.Cond).before a0 Z = true := hw _ (List.mem_of_getElem? (i := 236) rfl)
theorem w237 {a0 : Array Value} {Z : State} (hw : ∀ d ∈ tables_1, d.before a0 Z = true) : ((Jvm.Cond.static ({ cls := "java/util/Arrays", name := "checkLength", desc := "(II)V" } : Jvm.MethodName)) : Jvm.Cond).before a0 Z = true := hw _ (List.mem_of_getElem? (i := 237) rfl)
theorem w238 {a0 : Array Value} {Z : State} (hw : ∀ d ∈ tables_1, d.before a0 Z = true) : ((Jvm.Cond.code ({ cls := "java/util/Arrays", name := "checkLength", desc := "(II)V" } : Jvm.MethodName) jdk_65_method_131_code (2 : Nat) (Option.none : Option Jvm.ClassFile.FieldType)) : Jvm.Cond).before a0 Z = true := hw _ (List.mem_of_getElem? (i := 238) rfl)
theorem w239 {a0 : Array Value} {Z : State} (hw : ∀ d ∈ tables_1, d.before a0 Z = true) : ((Jvm.Cond.methodLink "java/util/Arrays" (304 : Nat) ({ cls := "java/lang/Math", name := "min", desc := "(II)I" } : Jvm.MethodName)) : Jvm.Cond).before a0 Z = true := hw _ (List.mem_of_getElem? (i := 239) rfl)
theorem w240 {a0 : Array Value} {Z : State} (hw : ∀ d ∈ tables_1, d.before a0 Z = true) : ((Jvm.Cond.methodLink "java/util/Arrays" (150 : Nat) ({ cls := "java/lang/System", name := "arraycopy", desc := "(Ljava/lang/Object;ILjava/lang/Object;II)V" } : Jvm.MethodName)) : Jvm.Cond).before a0 Z = true := hw _ (List.mem_of_getElem? (i := 240) rfl)
theorem w241 {a0 : Array Value} {Z : State} (hw : ∀ d ∈ tables_1, d.before a0 Z = true) : ((Jvm.Cond.classLink "java/lang/String" (10 : Nat) "java/lang/String") : Jvm.Cond).before a0 Z = true := hw _ (List.mem_of_getElem? (i := 241) rfl)
theorem w242 {a0 : Array Value} {Z : State} (hw : ∀ d ∈ tables_1, d.before a0 Z = true) : ((Jvm.Cond.methodLink "java/lang/String" (541 : Nat) ({ cls := "java/lang/StringLatin1", name := "equals", desc := "([B[B)Z" } : Jvm.MethodName)) : Jvm.Cond).before a0 Z = true := hw _ (List.mem_of_getElem? (i := 242) rfl)
theorem w243 {a0 : Array Value} {Z : State} (hw : ∀ d ∈ tables_1, d.before a0 Z = true) : ((Jvm.Cond.static ({ cls := "java/lang/StringLatin1", name := "equals", desc := "([B[B)Z" } : Jvm.MethodName)) : Jvm.Cond).before a0 Z = true := hw _ (List.mem_of_getElem? (i := 243) rfl)
theorem w244 {a0 : Array Value} {Z : State} (hw : ∀ d ∈ tables_1, d.before a0 Z = true) : ((Jvm.Cond.code ({ cls := "java/lang/StringLatin1", name := "equals", desc := "([B[B)Z" } : Jvm.MethodName) jdk_43_method_13_code (3 : Nat) (Option.some Jvm.ClassFile.FieldType.boolean)) : Jvm.Cond).before a0 Z = true := hw _ (List.mem_of_getElem? (i := 244) rfl)
theorem w245 {a0 : Array Value} {Z : State} (hw : ∀ d ∈ tables_1, d.before a0 Z = true) : ((Jvm.Cond.stringLink "com/example/ortigia/ortigia/LockKeysOfPinLaw" (41 : Nat) "released") : Jvm.Cond).before a0 Z = true := hw _ (List.mem_of_getElem? (i := 245) rfl)
theorem w246 {a0 : Array Value} {Z : State} (hw : ∀ d ∈ tables_1, d.before a0 Z = true) : ((Jvm.Cond.methodLink "com/example/ortigia/ortigia/LockKeysOfPinLaw" (43 : Nat) ({ cls := "com/example/ortigia/ortigia/LockKeys", name := "releasedChannel", desc := "()Ljava/lang/String;" } : Jvm.MethodName)) : Jvm.Cond).before a0 Z = true := hw _ (List.mem_of_getElem? (i := 246) rfl)
theorem w247 {a0 : Array Value} {Z : State} (hw : ∀ d ∈ tables_1, d.before a0 Z = true) : ((Jvm.Cond.declares ({ cls := "com/example/ortigia/ortigia/LockKeys", name := "releasedChannel", desc := "()Ljava/lang/String;" } : Jvm.MethodName)) : Jvm.Cond).before a0 Z = true := hw _ (List.mem_of_getElem? (i := 247) rfl)
theorem w248 {a0 : Array Value} {Z : State} (hw : ∀ d ∈ tables_1, d.before a0 Z = true) : ((Jvm.Cond.instanceMethod ({ cls := "com/example/ortigia/ortigia/LockKeys", name := "releasedChannel", desc := "()Ljava/lang/String;" } : Jvm.MethodName)) : Jvm.Cond).before a0 Z = true := hw _ (List.mem_of_getElem? (i := 248) rfl)
theorem w249 {a0 : Array Value} {Z : State} (hw : ∀ d ∈ tables_1, d.before a0 Z = true) : ((Jvm.Cond.selects "com/example/ortigia/ortigia/LockKeys" ({ cls := "com/example/ortigia/ortigia/LockKeys", name := "releasedChannel", desc := "()Ljava/lang/String;" } : Jvm.MethodName) ({ cls := "com/example/ortigia/ortigia/LockKeys", name := "releasedChannel", desc := "()Ljava/lang/String;" } : Jvm.MethodName)) : Jvm.Cond).before a0 Z = true := hw _ (List.mem_of_getElem? (i := 249) rfl)
theorem w250 {a0 : Array Value} {Z : State} (hw : ∀ d ∈ tables_1, d.before a0 Z = true) : ((Jvm.Cond.code ({ cls := "com/example/ortigia/ortigia/LockKeys", name := "releasedChannel", desc := "()Ljava/lang/String;" } : Jvm.MethodName) prog_4_method_5_code (1 : Nat) (Option.some (Jvm.ClassFile.FieldType.object "java/lang/String"))) : Jvm.Cond).before a0 Z = true := hw _ (List.mem_of_getElem? (i := 250) rfl)
theorem w251 {a0 : Array Value} {Z : State} (hw : ∀ d ∈ tables_1, d.before a0 Z = true) : ((Jvm.Cond.stringLink "com/example/ortigia/ortigia/LockKeys" (57 : Nat) "released") : Jvm.Cond).before a0 Z = true := hw _ (List.mem_of_getElem? (i := 251) rfl)
theorem w252 {a0 : Array Value} {Z : State} (hw : ∀ d ∈ tables_1, d.before a0 Z = true) : ((Jvm.Cond.stringLink "com/example/ortigia/ortigia/LockKeysOfPinLaw" (46 : Nat) "waiters") : Jvm.Cond).before a0 Z = true := hw _ (List.mem_of_getElem? (i := 252) rfl)
theorem w253 {a0 : Array Value} {Z : State} (hw : ∀ d ∈ tables_1, d.before a0 Z = true) : ((Jvm.Cond.methodLink "com/example/ortigia/ortigia/LockKeysOfPinLaw" (48 : Nat) ({ cls := "com/example/ortigia/ortigia/LockKeys", name := "waitersKey", desc := "()Ljava/lang/String;" } : Jvm.MethodName)) : Jvm.Cond).before a0 Z = true := hw _ (List.mem_of_getElem? (i := 253) rfl)
theorem w254 {a0 : Array Value} {Z : State} (hw : ∀ d ∈ tables_1, d.before a0 Z = true) : ((Jvm.Cond.declares ({ cls := "com/example/ortigia/ortigia/LockKeys", name := "waitersKey", desc := "()Ljava/lang/String;" } : Jvm.MethodName)) : Jvm.Cond).before a0 Z = true := hw _ (List.mem_of_getElem? (i := 254) rfl)
theorem w255 {a0 : Array Value} {Z : State} (hw : ∀ d ∈ tables_1, d.before a0 Z = true) : ((Jvm.Cond.instanceMethod ({ cls := "com/example/ortigia/ortigia/LockKeys", name := "waitersKey", desc := "()Ljava/lang/String;" } : Jvm.MethodName)) : Jvm.Cond).before a0 Z = true := hw _ (List.mem_of_getElem? (i := 255) rfl)
theorem w256 {a0 : Array Value} {Z : State} (hw : ∀ d ∈ tables_1, d.before a0 Z = true) : ((Jvm.Cond.selects "com/example/ortigia/ortigia/LockKeys" ({ cls := "com/example/ortigia/ortigia/LockKeys", name := "waitersKey", desc := "()Ljava/lang/String;" } : Jvm.MethodName) ({ cls := "com/example/ortigia/ortigia/LockKeys", name := "waitersKey", desc := "()Ljava/lang/String;" } : Jvm.MethodName)) : Jvm.Cond).before a0 Z = true := hw _ (List.mem_of_getElem? (i := 256) rfl)
theorem w257 {a0 : Array Value} {Z : State} (hw : ∀ d ∈ tables_1, d.before a0 Z = true) : ((Jvm.Cond.code ({ cls := "com/example/ortigia/ortigia/LockKeys", name := "waitersKey", desc := "()Ljava/lang/String;" } : Jvm.MethodName) prog_4_method_6_code (1 : Nat) (Option.some (Jvm.ClassFile.FieldType.object "java/lang/String"))) : Jvm.Cond).before a0 Z = true := hw _ (List.mem_of_getElem? (i := 257) rfl)
theorem w258 {a0 : Array Value} {Z : State} (hw : ∀ d ∈ tables_1, d.before a0 Z = true) : ((Jvm.Cond.stringLink "com/example/ortigia/ortigia/LockKeys" (59 : Nat) "waiters") : Jvm.Cond).before a0 Z = true := hw _ (List.mem_of_getElem? (i := 258) rfl)
theorem wStr {a0 : Array Value} {Z : State} (hw : ∀ d ∈ tables_1, d.before a0 Z = true) : ∀ d ∈ Bundle.stringAtoms, d.before a0 Z = true := fun d hd => by
  simp only [Bundle.stringAtoms, List.mem_cons, List.not_mem_nil, or_false] at hd
  rcases hd with rfl | rfl | rfl | rfl | rfl | rfl | rfl
  · exact (w7 hw)
  · exact (w6 hw)
  · exact (w23 hw)
  · exact (w33 hw)
  · exact (w31 hw)
  · exact (w39 hw)
  · exact (w40 hw)
abbrev EL1 : List (String × Nat) := consts_1
theorem ew {a0 : Array Value} {Z : State} (hw : ∀ d ∈ tables_1, d.before a0 Z = true) : EW Z a0 EL1 := EW.cons (w38 hw) (by decide) (EW.cons (w136 hw) (by decide) (EW.cons (w251 hw) (by decide) (EW.cons (w258 hw) (by decide) (EW.cons (w159 hw) (by decide) (EW.cons (w198 hw) (by decide) (EW.cons (w110 hw) (by decide) (EW.cons (w245 hw) (by decide) (EW.cons (w252 hw) (by decide) (EW.nil)))))))))
theorem d_mmax_0 : decode jdk_29_method_65_code 0 = .ok (.iload_n 0, 1) := by decide +kernel
theorem d_mmax_1 : decode jdk_29_method_65_code 1 = .ok (.iload_n 1, 1) := by decide +kernel
theorem d_mmax_2 : decode jdk_29_method_65_code 2 = .ok (.if_icmp .lt 7, 3) := by decide +kernel
theorem d_mmax_5 : decode jdk_29_method_65_code 5 = .ok (.iload_n 0, 1) := by decide +kernel
theorem d_mmax_6 : decode jdk_29_method_65_code 6 = .ok (.goto 4, 3) := by decide +kernel
theorem d_mmax_10 : decode jdk_29_method_65_code 10 = .ok (.ireturn, 1) := by decide +kernel
theorem d_mmin_0 : decode jdk_29_method_69_code 0 = .ok (.iload_n 0, 1) := by decide +kernel
theorem d_mmin_1 : decode jdk_29_method_69_code 1 = .ok (.iload_n 1, 1) := by decide +kernel
theorem d_mmin_2 : decode jdk_29_method_69_code 2 = .ok (.if_icmp .gt 7, 3) := by decide +kernel
theorem d_mmin_5 : decode jdk_29_method_69_code 5 = .ok (.iload_n 0, 1) := by decide +kernel
theorem d_mmin_6 : decode jdk_29_method_69_code 6 = .ok (.goto 4, 3) := by decide +kernel
theorem d_mmin_9 : decode jdk_29_method_69_code 9 = .ok (.iload_n 1, 1) := by decide +kernel
theorem d_mmin_10 : decode jdk_29_method_69_code 10 = .ok (.ireturn, 1) := by decide +kernel
theorem d_rnn_0 : decode jdk_31_method_11_code 0 = .ok (.aload_n 0, 1) := by decide +kernel
theorem d_rnn_1 : decode jdk_31_method_11_code 1 = .ok (.ifnonnull 12, 3) := by decide +kernel
theorem d_rnn_13 : decode jdk_31_method_11_code 13 = .ok (.aload_n 0, 1) := by decide +kernel
theorem d_rnn_14 : decode jdk_31_method_11_code 14 = .ok (.areturn, 1) := by decide +kernel
theorem d_pcix_0 : decode jdk_41_method_11_code 0 = .ok (.iload_n 0, 1) := by decide +kernel
theorem d_pcix_1 : decode jdk_41_method_11_code 1 = .ok (.ifCond .lt 8, 3) := by decide +kernel
theorem d_pcix_4 : decode jdk_41_method_11_code 4 = .ok (.iload_n 0, 1) := by decide +kernel
theorem d_pcix_5 : decode jdk_41_method_11_code 5 = .ok (.iload_n 1, 1) := by decide +kernel
theorem d_pcix_6 : decode jdk_41_method_11_code 6 = .ok (.if_icmp .lt 10, 3) := by decide +kernel
theorem d_pcix_16 : decode jdk_41_method_11_code 16 = .ok (.iload_n 0, 1) := by decide +kernel
theorem d_pcix_17 : decode jdk_41_method_11_code 17 = .ok (.ireturn, 1) := by decide +kernel
theorem d_gbyt_0 : decode jdk_42_method_147_code 0 = .ok (.aload_n 0, 1) := by decide +kernel
theorem d_gbyt_1 : decode jdk_42_method_147_code 1 = .ok (.invokevirtual 335, 3) := by decide +kernel
theorem d_gbyt_4 : decode jdk_42_method_147_code 4 = .ok (.iload_n 3, 1) := by decide +kernel
theorem d_gbyt_5 : decode jdk_42_method_147_code 5 = .ok (.if_icmp .ne 23, 3) := by decide +kernel
theorem d_gbyt_8 : decode jdk_42_method_147_code 8 = .ok (.aload_n 0, 1) := by decide +kernel
theorem d_gbyt_9 : decode jdk_42_method_147_code 9 = .ok (.getfield 9, 3) := by decide +kernel
theorem d_gbyt_12 : decode jdk_42_method_147_code 12 = .ok (.iconst 0, 1) := by decide +kernel
theorem d_gbyt_13 : decode jdk_42_method_147_code 13 = .ok (.aload_n 1, 1) := by decide +kernel
theorem d_gbyt_14 : decode jdk_42_method_147_code 14 = .ok (.iload_n 2, 1) := by decide +kernel
theorem d_gbyt_15 : decode jdk_42_method_147_code 15 = .ok (.iload_n 3, 1) := by decide +kernel
theorem d_gbyt_16 : decode jdk_42_method_147_code 16 = .ok (.ishl, 1) := by decide +kernel
theorem d_gbyt_17 : decode jdk_42_method_147_code 17 = .ok (.aload_n 0, 1) := by decide +kernel
theorem d_gbyt_18 : decode jdk_42_method_147_code 18 = .ok (.getfield 9, 3) := by decide +kernel
theorem d_gbyt_21 : decode jdk_42_method_147_code 21 = .ok (.arraylength, 1) := by decide +kernel
theorem d_gbyt_22 : decode jdk_42_method_147_code 22 = .ok (.invokestatic 212, 3) := by decide +kernel
theorem d_gbyt_25 : decode jdk_42_method_147_code 25 = .ok (.goto 18, 3) := by decide +kernel
theorem d_gbyt_43 : decode jdk_42_method_147_code 43 = .ok (.return_, 1) := by decide +kernel
theorem d_sini4_0 : decode jdk_42_method_149_code 0 = .ok (.aload_n 0, 1) := by decide +kernel
theorem d_sini4_1 : decode jdk_42_method_149_code 1 = .ok (.invokespecial 1, 3) := by decide +kernel
theorem d_sini4_4 : decode jdk_42_method_149_code 4 = .ok (.iload_n 3, 1) := by decide +kernel
theorem d_sini4_5 : decode jdk_42_method_149_code 5 = .ok (.ifCond .ne 22, 3) := by decide +kernel
theorem d_sini4_27 : decode jdk_42_method_149_code 27 = .ok (.getstatic 38, 3) := by decide +kernel
theorem d_sini4_30 : decode jdk_42_method_149_code 30 = .ok (.ifCond .eq 28, 3) := by decide +kernel
theorem d_sini4_33 : decode jdk_42_method_149_code 33 = .ok (.aload_n 1, 1) := by decide +kernel
theorem d_sini4_34 : decode jdk_42_method_149_code 34 = .ok (.iload_n 2, 1) := by decide +kernel
theorem d_sini4_35 : decode jdk_42_method_149_code 35 = .ok (.iload_n 3, 1) := by decide +kernel
theorem d_sini4_36 : decode jdk_42_method_149_code 36 = .ok (.invokestatic 177, 3) := by decide +kernel
theorem d_sini4_39 : decode jdk_42_method_149_code 39 = .ok (.astore 5, 2) := by decide +kernel
theorem d_sini4_41 : decode jdk_42_method_149_code 41 = .ok (.aload_n 0, 1) := by decide +kernel
theorem d_sini4_42 : decode jdk_42_method_149_code 42 = .ok (.aload 5, 2) := by decide +kernel
theorem d_sini4_44 : decode jdk_42_method_149_code 44 = .ok (.iload_n 3, 1) := by decide +kernel
theorem d_sini4_45 : decode jdk_42_method_149_code 45 = .ok (.invokestatic 47, 3) := by decide +kernel
theorem d_sini4_48 : decode jdk_42_method_149_code 48 = .ok (.putfield 15, 3) := by decide +kernel
theorem d_sini4_51 : decode jdk_42_method_149_code 51 = .ok (.aload_n 0, 1) := by decide +kernel
theorem d_sini4_52 : decode jdk_42_method_149_code 52 = .ok (.aload 5, 2) := by decide +kernel
theorem d_sini4_54 : decode jdk_42_method_149_code 54 = .ok (.putfield 9, 3) := by decide +kernel
theorem d_sini4_57 : decode jdk_42_method_149_code 57 = .ok (.return_, 1) := by decide +kernel
theorem d_siav_0 : decode jdk_42_method_150_code 0 = .ok (.aload_n 0, 1) := by decide +kernel
theorem d_siav_1 : decode jdk_42_method_150_code 1 = .ok (.invokespecial 1, 3) := by decide +kernel
theorem d_siav_4 : decode jdk_42_method_150_code 4 = .ok (.aload_n 1, 1) := by decide +kernel
theorem d_siav_5 : decode jdk_42_method_150_code 5 = .ok (.invokevirtual 552, 3) := by decide +kernel
theorem d_siav_8 : decode jdk_42_method_150_code 8 = .ok (.astore_n 3, 1) := by decide +kernel
theorem d_siav_9 : decode jdk_42_method_150_code 9 = .ok (.aload_n 1, 1) := by decide +kernel
theorem d_siav_10 : decode jdk_42_method_150_code 10 = .ok (.invokevirtual 549, 3) := by decide +kernel
theorem d_siav_13 : decode jdk_42_method_150_code 13 = .ok (.istore 4, 2) := by decide +kernel
theorem d_siav_15 : decode jdk_42_method_150_code 15 = .ok (.aload_n 1, 1) := by decide +kernel
theorem d_siav_16 : decode jdk_42_method_150_code 16 = .ok (.invokevirtual 1047, 3) := by decide +kernel
theorem d_siav_19 : decode jdk_42_method_150_code 19 = .ok (.ifCond .eq 22, 3) := by decide +kernel
theorem d_siav_22 : decode jdk_42_method_150_code 22 = .ok (.aload_n 0, 1) := by decide +kernel
theorem d_siav_23 : decode jdk_42_method_150_code 23 = .ok (.iconst 0, 1) := by decide +kernel
theorem d_siav_24 : decode jdk_42_method_150_code 24 = .ok (.putfield 15, 3) := by decide +kernel
theorem d_siav_27 : decode jdk_42_method_150_code 27 = .ok (.aload_n 0, 1) := by decide +kernel
theorem d_siav_28 : decode jdk_42_method_150_code 28 = .ok (.aload_n 3, 1) := by decide +kernel
theorem d_siav_29 : decode jdk_42_method_150_code 29 = .ok (.iconst 0, 1) := by decide +kernel
theorem d_siav_30 : decode jdk_42_method_150_code 30 = .ok (.iload 4, 2) := by decide +kernel
theorem d_siav_32 : decode jdk_42_method_150_code 32 = .ok (.invokestatic 54, 3) := by decide +kernel
theorem d_siav_35 : decode jdk_42_method_150_code 35 = .ok (.putfield 9, 3) := by decide +kernel
theorem d_siav_38 : decode jdk_42_method_150_code 38 = .ok (.goto 59, 3) := by decide +kernel
theorem d_siav_97 : decode jdk_42_method_150_code 97 = .ok (.return_, 1) := by decide +kernel
theorem d_scod_0 : decode jdk_42_method_152_code 0 = .ok (.getstatic 38, 3) := by decide +kernel
theorem d_scod_3 : decode jdk_42_method_152_code 3 = .ok (.ifCond .eq 10, 3) := by decide +kernel
theorem d_scod_6 : decode jdk_42_method_152_code 6 = .ok (.aload_n 0, 1) := by decide +kernel
theorem d_scod_7 : decode jdk_42_method_152_code 7 = .ok (.getfield 15, 3) := by decide +kernel
theorem d_scod_10 : decode jdk_42_method_152_code 10 = .ok (.goto 4, 3) := by decide +kernel
theorem d_scod_14 : decode jdk_42_method_152_code 14 = .ok (.ireturn, 1) := by decide +kernel
theorem d_sil1_0 : decode jdk_42_method_154_code 0 = .ok (.getstatic 38, 3) := by decide +kernel
theorem d_sil1_3 : decode jdk_42_method_154_code 3 = .ok (.ifCond .eq 14, 3) := by decide +kernel
theorem d_sil1_6 : decode jdk_42_method_154_code 6 = .ok (.aload_n 0, 1) := by decide +kernel
theorem d_sil1_7 : decode jdk_42_method_154_code 7 = .ok (.getfield 15, 3) := by decide +kernel
theorem d_sil1_10 : decode jdk_42_method_154_code 10 = .ok (.ifCond .ne 7, 3) := by decide +kernel
theorem d_sil1_13 : decode jdk_42_method_154_code 13 = .ok (.iconst 1, 1) := by decide +kernel
theorem d_sil1_14 : decode jdk_42_method_154_code 14 = .ok (.goto 4, 3) := by decide +kernel
theorem d_sil1_18 : decode jdk_42_method_154_code 18 = .ok (.ireturn, 1) := by decide +kernel
theorem d_scix_0 : decode jdk_42_method_155_code 0 = .ok (.iload_n 0, 1) := by decide +kernel
theorem d_scix_1 : decode jdk_42_method_155_code 1 = .ok (.iload_n 1, 1) := by decide +kernel
theorem d_scix_2 : decode jdk_42_method_155_code 2 = .ok (.getstatic 1053, 3) := by decide +kernel
theorem d_scix_5 : decode jdk_42_method_155_code 5 = .ok (.invokestatic 1059, 3) := by decide +kernel
theorem d_scix_8 : decode jdk_42_method_155_code 8 = .ok (.pop, 1) := by decide +kernel
theorem d_scix_9 : decode jdk_42_method_155_code 9 = .ok (.return_, 1) := by decide +kernel
theorem d_sini1_0 : decode jdk_42_method_3_code 0 = .ok (.aload_n 0, 1) := by decide +kernel
theorem d_sini1_1 : decode jdk_42_method_3_code 1 = .ok (.aload_n 1, 1) := by decide +kernel
theorem d_sini1_2 : decode jdk_42_method_3_code 2 = .ok (.iconst 0, 1) := by decide +kernel
theorem d_sini1_3 : decode jdk_42_method_3_code 3 = .ok (.aload_n 1, 1) := by decide +kernel
theorem d_sini1_4 : decode jdk_42_method_3_code 4 = .ok (.arraylength, 1) := by decide +kernel
theorem d_sini1_5 : decode jdk_42_method_3_code 5 = .ok (.aconst_null, 1) := by decide +kernel
theorem d_sini1_6 : decode jdk_42_method_3_code 6 = .ok (.invokespecial 27, 3) := by decide +kernel
theorem d_sini1_9 : decode jdk_42_method_3_code 9 = .ok (.return_, 1) := by decide +kernel
theorem d_sisb_0 : decode jdk_42_method_53_code 0 = .ok (.aload_n 0, 1) := by decide +kernel
theorem d_sisb_1 : decode jdk_42_method_53_code 1 = .ok (.aload_n 1, 1) := by decide +kernel
theorem d_sisb_2 : decode jdk_42_method_53_code 2 = .ok (.aconst_null, 1) := by decide +kernel
theorem d_sisb_3 : decode jdk_42_method_53_code 3 = .ok (.invokespecial 489, 3) := by decide +kernel
theorem d_sisb_6 : decode jdk_42_method_53_code 6 = .ok (.return_, 1) := by decide +kernel
theorem d_slen_0 : decode jdk_42_method_54_code 0 = .ok (.aload_n 0, 1) := by decide +kernel
theorem d_slen_1 : decode jdk_42_method_54_code 1 = .ok (.getfield 9, 3) := by decide +kernel
theorem d_slen_4 : decode jdk_42_method_54_code 4 = .ok (.arraylength, 1) := by decide +kernel
theorem d_slen_5 : decode jdk_42_method_54_code 5 = .ok (.aload_n 0, 1) := by decide +kernel
theorem d_slen_6 : decode jdk_42_method_54_code 6 = .ok (.invokevirtual 335, 3) := by decide +kernel
theorem d_slen_9 : decode jdk_42_method_54_code 9 = .ok (.ishr, 1) := by decide +kernel
theorem d_slen_10 : decode jdk_42_method_54_code 10 = .ok (.ireturn, 1) := by decide +kernel
theorem d_semp_0 : decode jdk_42_method_55_code 0 = .ok (.aload_n 0, 1) := by decide +kernel
theorem d_semp_1 : decode jdk_42_method_55_code 1 = .ok (.getfield 9, 3) := by decide +kernel
theorem d_semp_4 : decode jdk_42_method_55_code 4 = .ok (.arraylength, 1) := by decide +kernel
theorem d_semp_5 : decode jdk_42_method_55_code 5 = .ok (.ifCond .ne 7, 3) := by decide +kernel
theorem d_semp_12 : decode jdk_42_method_55_code 12 = .ok (.iconst 0, 1) := by decide +kernel
theorem d_semp_13 : decode jdk_42_method_55_code 13 = .ok (.ireturn, 1) := by decide +kernel
theorem d_scha_0 : decode jdk_42_method_56_code 0 = .ok (.aload_n 0, 1) := by decide +kernel
theorem d_scha_1 : decode jdk_42_method_56_code 1 = .ok (.invokevirtual 492, 3) := by decide +kernel
theorem d_scha_4 : decode jdk_42_method_56_code 4 = .ok (.ifCond .eq 12, 3) := by decide +kernel
theorem d_scha_7 : decode jdk_42_method_56_code 7 = .ok (.aload_n 0, 1) := by decide +kernel
theorem d_scha_8 : decode jdk_42_method_56_code 8 = .ok (.getfield 9, 3) := by decide +kernel
theorem d_scha_11 : decode jdk_42_method_56_code 11 = .ok (.iload_n 1, 1) := by decide +kernel
theorem d_scha_12 : decode jdk_42_method_56_code 12 = .ok (.invokestatic 495, 3) := by decide +kernel
theorem d_scha_15 : decode jdk_42_method_56_code 15 = .ok (.ireturn, 1) := by decide +kernel
theorem d_seq_0 : decode jdk_42_method_66_code 0 = .ok (.aload_n 0, 1) := by decide +kernel
theorem d_seq_1 : decode jdk_42_method_66_code 1 = .ok (.aload_n 1, 1) := by decide +kernel
theorem d_seq_2 : decode jdk_42_method_66_code 2 = .ok (.if_acmp .ne 5, 3) := by decide +kernel
theorem d_seq_5 : decode jdk_42_method_66_code 5 = .ok (.iconst 1, 1) := by decide +kernel
theorem d_seq_6 : decode jdk_42_method_66_code 6 = .ok (.ireturn, 1) := by decide +kernel
theorem d_seq_7 : decode jdk_42_method_66_code 7 = .ok (.aload_n 1, 1) := by decide +kernel
theorem d_seq_8 : decode jdk_42_method_66_code 8 = .ok (.instanceof 10, 3) := by decide +kernel
theorem d_seq_11 : decode jdk_42_method_66_code 11 = .ok (.ifCond .eq 43, 3) := by decide +kernel
theorem d_seq_14 : decode jdk_42_method_66_code 14 = .ok (.aload_n 1, 1) := by decide +kernel
theorem d_seq_15 : decode jdk_42_method_66_code 15 = .ok (.checkcast 10, 3) := by decide +kernel
theorem d_seq_18 : decode jdk_42_method_66_code 18 = .ok (.astore_n 2, 1) := by decide +kernel
theorem d_seq_19 : decode jdk_42_method_66_code 19 = .ok (.getstatic 38, 3) := by decide +kernel
theorem d_seq_22 : decode jdk_42_method_66_code 22 = .ok (.ifCond .eq 14, 3) := by decide +kernel
theorem d_seq_25 : decode jdk_42_method_66_code 25 = .ok (.aload_n 0, 1) := by decide +kernel
theorem d_seq_26 : decode jdk_42_method_66_code 26 = .ok (.getfield 15, 3) := by decide +kernel
theorem d_seq_29 : decode jdk_42_method_66_code 29 = .ok (.aload_n 2, 1) := by decide +kernel
theorem d_seq_30 : decode jdk_42_method_66_code 30 = .ok (.getfield 15, 3) := by decide +kernel
theorem d_seq_33 : decode jdk_42_method_66_code 33 = .ok (.if_icmp .ne 21, 3) := by decide +kernel
theorem d_seq_36 : decode jdk_42_method_66_code 36 = .ok (.aload_n 0, 1) := by decide +kernel
theorem d_seq_37 : decode jdk_42_method_66_code 37 = .ok (.getfield 9, 3) := by decide +kernel
theorem d_seq_40 : decode jdk_42_method_66_code 40 = .ok (.aload_n 2, 1) := by decide +kernel
theorem d_seq_41 : decode jdk_42_method_66_code 41 = .ok (.getfield 9, 3) := by decide +kernel
theorem d_seq_44 : decode jdk_42_method_66_code 44 = .ok (.invokestatic 541, 3) := by decide +kernel
theorem d_seq_47 : decode jdk_42_method_66_code 47 = .ok (.ifCond .eq 7, 3) := by decide +kernel
theorem d_seq_50 : decode jdk_42_method_66_code 50 = .ok (.iconst 1, 1) := by decide +kernel
theorem d_seq_51 : decode jdk_42_method_66_code 51 = .ok (.goto 4, 3) := by decide +kernel
theorem d_seq_54 : decode jdk_42_method_66_code 54 = .ok (.iconst 0, 1) := by decide +kernel
theorem d_seq_55 : decode jdk_42_method_66_code 55 = .ok (.ireturn, 1) := by decide +kernel
theorem d_six1_0 : decode jdk_42_method_79_code 0 = .ok (.aload_n 0, 1) := by decide +kernel
theorem d_six1_1 : decode jdk_42_method_79_code 1 = .ok (.iload_n 1, 1) := by decide +kernel
theorem d_six1_2 : decode jdk_42_method_79_code 2 = .ok (.iconst 0, 1) := by decide +kernel
theorem d_six1_3 : decode jdk_42_method_79_code 3 = .ok (.invokevirtual 633, 3) := by decide +kernel
theorem d_six1_6 : decode jdk_42_method_79_code 6 = .ok (.ireturn, 1) := by decide +kernel
theorem d_six2_0 : decode jdk_42_method_80_code 0 = .ok (.aload_n 0, 1) := by decide +kernel
theorem d_six2_1 : decode jdk_42_method_80_code 1 = .ok (.invokevirtual 492, 3) := by decide +kernel
theorem d_six2_4 : decode jdk_42_method_80_code 4 = .ok (.ifCond .eq 19, 3) := by decide +kernel
theorem d_six2_7 : decode jdk_42_method_80_code 7 = .ok (.aload_n 0, 1) := by decide +kernel
theorem d_six2_8 : decode jdk_42_method_80_code 8 = .ok (.getfield 9, 3) := by decide +kernel
theorem d_six2_11 : decode jdk_42_method_80_code 11 = .ok (.iload_n 1, 1) := by decide +kernel
theorem d_six2_12 : decode jdk_42_method_80_code 12 = .ok (.iload_n 2, 1) := by decide +kernel
theorem d_six2_13 : decode jdk_42_method_80_code 13 = .ok (.aload_n 0, 1) := by decide +kernel
theorem d_six2_14 : decode jdk_42_method_80_code 14 = .ok (.invokevirtual 505, 3) := by decide +kernel
theorem d_six2_17 : decode jdk_42_method_80_code 17 = .ok (.invokestatic 637, 3) := by decide +kernel
theorem d_six2_20 : decode jdk_42_method_80_code 20 = .ok (.goto 16, 3) := by decide +kernel
theorem d_six2_36 : decode jdk_42_method_80_code 36 = .ok (.ireturn, 1) := by decide +kernel
theorem d_leq_0 : decode jdk_43_method_13_code 0 = .ok (.aload_n 0, 1) := by decide +kernel
theorem d_leq_1 : decode jdk_43_method_13_code 1 = .ok (.arraylength, 1) := by decide +kernel
theorem d_leq_2 : decode jdk_43_method_13_code 2 = .ok (.aload_n 1, 1) := by decide +kernel
theorem d_leq_3 : decode jdk_43_method_13_code 3 = .ok (.arraylength, 1) := by decide +kernel
theorem d_leq_4 : decode jdk_43_method_13_code 4 = .ok (.if_icmp .ne 30, 3) := by decide +kernel
theorem d_leq_7 : decode jdk_43_method_13_code 7 = .ok (.iconst 0, 1) := by decide +kernel
theorem d_leq_8 : decode jdk_43_method_13_code 8 = .ok (.istore_n 2, 1) := by decide +kernel
theorem d_leq_9 : decode jdk_43_method_13_code 9 = .ok (.iload_n 2, 1) := by decide +kernel
theorem d_leq_10 : decode jdk_43_method_13_code 10 = .ok (.aload_n 0, 1) := by decide +kernel
theorem d_leq_11 : decode jdk_43_method_13_code 11 = .ok (.arraylength, 1) := by decide +kernel
theorem d_leq_12 : decode jdk_43_method_13_code 12 = .ok (.if_icmp .ge 20, 3) := by decide +kernel
theorem d_leq_15 : decode jdk_43_method_13_code 15 = .ok (.aload_n 0, 1) := by decide +kernel
theorem d_leq_16 : decode jdk_43_method_13_code 16 = .ok (.iload_n 2, 1) := by decide +kernel
theorem d_leq_17 : decode jdk_43_method_13_code 17 = .ok (.baload, 1) := by decide +kernel
theorem d_leq_18 : decode jdk_43_method_13_code 18 = .ok (.aload_n 1, 1) := by decide +kernel
theorem d_leq_19 : decode jdk_43_method_13_code 19 = .ok (.iload_n 2, 1) := by decide +kernel
theorem d_leq_20 : decode jdk_43_method_13_code 20 = .ok (.baload, 1) := by decide +kernel
theorem d_leq_21 : decode jdk_43_method_13_code 21 = .ok (.if_icmp .eq 5, 3) := by decide +kernel
theorem d_leq_24 : decode jdk_43_method_13_code 24 = .ok (.iconst 0, 1) := by decide +kernel
theorem d_leq_25 : decode jdk_43_method_13_code 25 = .ok (.ireturn, 1) := by decide +kernel
theorem d_leq_26 : decode jdk_43_method_13_code 26 = .ok (.iinc 2 1, 3) := by decide +kernel
theorem d_leq_29 : decode jdk_43_method_13_code 29 = .ok (.goto (-20), 3) := by decide +kernel
theorem d_leq_32 : decode jdk_43_method_13_code 32 = .ok (.iconst 1, 1) := by decide +kernel
theorem d_leq_33 : decode jdk_43_method_13_code 33 = .ok (.ireturn, 1) := by decide +kernel
theorem d_leq_34 : decode jdk_43_method_13_code 34 = .ok (.iconst 0, 1) := by decide +kernel
theorem d_leq_35 : decode jdk_43_method_13_code 35 = .ok (.ireturn, 1) := by decide +kernel
theorem d_lidx_0 : decode jdk_43_method_22_code 0 = .ok (.iload_n 1, 1) := by decide +kernel
theorem d_lidx_1 : decode jdk_43_method_22_code 1 = .ok (.invokestatic 88, 3) := by decide +kernel
theorem d_lidx_4 : decode jdk_43_method_22_code 4 = .ok (.ifCond .ne 5, 3) := by decide +kernel
theorem d_lidx_9 : decode jdk_43_method_22_code 9 = .ok (.iload_n 2, 1) := by decide +kernel
theorem d_lidx_10 : decode jdk_43_method_22_code 10 = .ok (.iconst 0, 1) := by decide +kernel
theorem d_lidx_11 : decode jdk_43_method_22_code 11 = .ok (.invokestatic 92, 3) := by decide +kernel
theorem d_lidx_14 : decode jdk_43_method_22_code 14 = .ok (.istore_n 2, 1) := by decide +kernel
theorem d_lidx_15 : decode jdk_43_method_22_code 15 = .ok (.iload_n 3, 1) := by decide +kernel
theorem d_lidx_16 : decode jdk_43_method_22_code 16 = .ok (.aload_n 0, 1) := by decide +kernel
theorem d_lidx_17 : decode jdk_43_method_22_code 17 = .ok (.arraylength, 1) := by decide +kernel
theorem d_lidx_18 : decode jdk_43_method_22_code 18 = .ok (.invokestatic 38, 3) := by decide +kernel
theorem d_lidx_21 : decode jdk_43_method_22_code 21 = .ok (.istore_n 3, 1) := by decide +kernel
theorem d_lidx_22 : decode jdk_43_method_22_code 22 = .ok (.iload_n 2, 1) := by decide +kernel
theorem d_lidx_23 : decode jdk_43_method_22_code 23 = .ok (.iload_n 3, 1) := by decide +kernel
theorem d_lidx_24 : decode jdk_43_method_22_code 24 = .ok (.if_icmp .lt 5, 3) := by decide +kernel
theorem d_lidx_29 : decode jdk_43_method_22_code 29 = .ok (.aload_n 0, 1) := by decide +kernel
theorem d_lidx_30 : decode jdk_43_method_22_code 30 = .ok (.iload_n 1, 1) := by decide +kernel
theorem d_lidx_31 : decode jdk_43_method_22_code 31 = .ok (.iload_n 2, 1) := by decide +kernel
theorem d_lidx_32 : decode jdk_43_method_22_code 32 = .ok (.iload_n 3, 1) := by decide +kernel
theorem d_lidx_33 : decode jdk_43_method_22_code 33 = .ok (.invokestatic 95, 3) := by decide +kernel
theorem d_lidx_36 : decode jdk_43_method_22_code 36 = .ok (.ireturn, 1) := by decide +kernel
theorem d_ioch_0 : decode jdk_43_method_23_code 0 = .ok (.iload_n 1, 1) := by decide +kernel
theorem d_ioch_1 : decode jdk_43_method_23_code 1 = .ok (.i2b, 1) := by decide +kernel
theorem d_ioch_2 : decode jdk_43_method_23_code 2 = .ok (.istore 4, 2) := by decide +kernel
theorem d_ioch_4 : decode jdk_43_method_23_code 4 = .ok (.iload_n 2, 1) := by decide +kernel
theorem d_ioch_5 : decode jdk_43_method_23_code 5 = .ok (.istore 5, 2) := by decide +kernel
theorem d_ioch_7 : decode jdk_43_method_23_code 7 = .ok (.iload 5, 2) := by decide +kernel
theorem d_ioch_9 : decode jdk_43_method_23_code 9 = .ok (.iload_n 3, 1) := by decide +kernel
theorem d_ioch_10 : decode jdk_43_method_23_code 10 = .ok (.if_icmp .ge 21, 3) := by decide +kernel
theorem d_ioch_13 : decode jdk_43_method_23_code 13 = .ok (.aload_n 0, 1) := by decide +kernel
theorem d_ioch_14 : decode jdk_43_method_23_code 14 = .ok (.iload 5, 2) := by decide +kernel
theorem d_ioch_16 : decode jdk_43_method_23_code 16 = .ok (.baload, 1) := by decide +kernel
theorem d_ioch_17 : decode jdk_43_method_23_code 17 = .ok (.iload 4, 2) := by decide +kernel
theorem d_ioch_19 : decode jdk_43_method_23_code 19 = .ok (.if_icmp .ne 6, 3) := by decide +kernel
theorem d_ioch_25 : decode jdk_43_method_23_code 25 = .ok (.iinc 5 1, 3) := by decide +kernel
theorem d_ioch_28 : decode jdk_43_method_23_code 28 = .ok (.goto (-21), 3) := by decide +kernel
theorem d_ioch_31 : decode jdk_43_method_23_code 31 = .ok (.iconst (-1), 1) := by decide +kernel
theorem d_ioch_32 : decode jdk_43_method_23_code 32 = .ok (.ireturn, 1) := by decide +kernel
theorem d_lcha_0 : decode jdk_43_method_2_code 0 = .ok (.iload_n 1, 1) := by decide +kernel
theorem d_lcha_1 : decode jdk_43_method_2_code 1 = .ok (.aload_n 0, 1) := by decide +kernel
theorem d_lcha_2 : decode jdk_43_method_2_code 2 = .ok (.arraylength, 1) := by decide +kernel
theorem d_lcha_3 : decode jdk_43_method_2_code 3 = .ok (.invokestatic 9, 3) := by decide +kernel
theorem d_lcha_6 : decode jdk_43_method_2_code 6 = .ok (.aload_n 0, 1) := by decide +kernel
theorem d_lcha_7 : decode jdk_43_method_2_code 7 = .ok (.iload_n 1, 1) := by decide +kernel
theorem d_lcha_8 : decode jdk_43_method_2_code 8 = .ok (.baload, 1) := by decide +kernel
theorem d_lcha_9 : decode jdk_43_method_2_code 9 = .ok (.sipush 255, 3) := by decide +kernel
theorem d_lcha_12 : decode jdk_43_method_2_code 12 = .ok (.iand, 1) := by decide +kernel
theorem d_lcha_13 : decode jdk_43_method_2_code 13 = .ok (.i2c, 1) := by decide +kernel
theorem d_lcha_14 : decode jdk_43_method_2_code 14 = .ok (.ireturn, 1) := by decide +kernel
theorem d_cenI_0 : decode jdk_43_method_4_code 0 = .ok (.iload_n 0, 1) := by decide +kernel
theorem d_cenI_1 : decode jdk_43_method_4_code 1 = .ok (.ifCond .lt 14, 3) := by decide +kernel
theorem d_cenI_4 : decode jdk_43_method_4_code 4 = .ok (.iload_n 0, 1) := by decide +kernel
theorem d_cenI_5 : decode jdk_43_method_4_code 5 = .ok (.sipush 255, 3) := by decide +kernel
theorem d_cenI_8 : decode jdk_43_method_4_code 8 = .ok (.if_icmp .gt 7, 3) := by decide +kernel
theorem d_cenI_11 : decode jdk_43_method_4_code 11 = .ok (.iconst 1, 1) := by decide +kernel
theorem d_cenI_12 : decode jdk_43_method_4_code 12 = .ok (.goto 4, 3) := by decide +kernel
theorem d_cenI_16 : decode jdk_43_method_4_code 16 = .ok (.ireturn, 1) := by decide +kernel
theorem d_cfal_0 : decode jdk_52_method_15_code 0 = .ok (.iload_n 1, 1) := by decide +kernel
theorem d_cfal_1 : decode jdk_52_method_15_code 1 = .ok (.aload_n 0, 1) := by decide +kernel
theorem d_cfal_2 : decode jdk_52_method_15_code 2 = .ok (.arraylength, 1) := by decide +kernel
theorem d_cfal_3 : decode jdk_52_method_15_code 3 = .ok (.isub, 1) := by decide +kernel
theorem d_cfal_4 : decode jdk_52_method_15_code 4 = .ok (.bipush 31, 2) := by decide +kernel
theorem d_cfal_6 : decode jdk_52_method_15_code 6 = .ok (.iushr, 1) := by decide +kernel
theorem d_cfal_7 : decode jdk_52_method_15_code 7 = .ok (.i2b, 1) := by decide +kernel
theorem d_cfal_8 : decode jdk_52_method_15_code 8 = .ok (.ireturn, 1) := by decide +kernel
theorem d_cmp3_0 : decode jdk_52_method_16_code 0 = .ok (.iload_n 2, 1) := by decide +kernel
theorem d_cmp3_1 : decode jdk_52_method_16_code 1 = .ok (.newarray .byte, 2) := by decide +kernel
theorem d_cmp3_3 : decode jdk_52_method_16_code 3 = .ok (.astore_n 3, 1) := by decide +kernel
theorem d_cmp3_4 : decode jdk_52_method_16_code 4 = .ok (.aload_n 0, 1) := by decide +kernel
theorem d_cmp3_5 : decode jdk_52_method_16_code 5 = .ok (.iload_n 1, 1) := by decide +kernel
theorem d_cmp3_6 : decode jdk_52_method_16_code 6 = .ok (.aload_n 3, 1) := by decide +kernel
theorem d_cmp3_7 : decode jdk_52_method_16_code 7 = .ok (.iconst 0, 1) := by decide +kernel
theorem d_cmp3_8 : decode jdk_52_method_16_code 8 = .ok (.iload_n 2, 1) := by decide +kernel
theorem d_cmp3_9 : decode jdk_52_method_16_code 9 = .ok (.invokestatic 115, 3) := by decide +kernel
theorem d_cmp3_12 : decode jdk_52_method_16_code 12 = .ok (.istore 4, 2) := by decide +kernel
theorem d_cmp3_14 : decode jdk_52_method_16_code 14 = .ok (.iload 4, 2) := by decide +kernel
theorem d_cmp3_16 : decode jdk_52_method_16_code 16 = .ok (.iload_n 2, 1) := by decide +kernel
theorem d_cmp3_17 : decode jdk_52_method_16_code 17 = .ok (.if_icmp .eq 40, 3) := by decide +kernel
theorem d_cmp3_57 : decode jdk_52_method_16_code 57 = .ok (.aload_n 3, 1) := by decide +kernel
theorem d_cmp3_58 : decode jdk_52_method_16_code 58 = .ok (.areturn, 1) := by decide +kernel
theorem d_cmp5_0 : decode jdk_52_method_21_code 0 = .ok (.iconst 0, 1) := by decide +kernel
theorem d_cmp5_1 : decode jdk_52_method_21_code 1 = .ok (.istore 5, 2) := by decide +kernel
theorem d_cmp5_3 : decode jdk_52_method_21_code 3 = .ok (.iload 5, 2) := by decide +kernel
theorem d_cmp5_5 : decode jdk_52_method_21_code 5 = .ok (.iload 4, 2) := by decide +kernel
theorem d_cmp5_7 : decode jdk_52_method_21_code 7 = .ok (.if_icmp .ge 37, 3) := by decide +kernel
theorem d_cmp5_10 : decode jdk_52_method_21_code 10 = .ok (.aload_n 0, 1) := by decide +kernel
theorem d_cmp5_11 : decode jdk_52_method_21_code 11 = .ok (.iload_n 1, 1) := by decide +kernel
theorem d_cmp5_12 : decode jdk_52_method_21_code 12 = .ok (.caload, 1) := by decide +kernel
theorem d_cmp5_13 : decode jdk_52_method_21_code 13 = .ok (.istore 6, 2) := by decide +kernel
theorem d_cmp5_15 : decode jdk_52_method_21_code 15 = .ok (.iload 6, 2) := by decide +kernel
theorem d_cmp5_17 : decode jdk_52_method_21_code 17 = .ok (.sipush 255, 3) := by decide +kernel
theorem d_cmp5_20 : decode jdk_52_method_21_code 20 = .ok (.if_icmp .le 6, 3) := by decide +kernel
theorem d_cmp5_26 : decode jdk_52_method_21_code 26 = .ok (.aload_n 2, 1) := by decide +kernel
theorem d_cmp5_27 : decode jdk_52_method_21_code 27 = .ok (.iload_n 3, 1) := by decide +kernel
theorem d_cmp5_28 : decode jdk_52_method_21_code 28 = .ok (.iload 6, 2) := by decide +kernel
theorem d_cmp5_30 : decode jdk_52_method_21_code 30 = .ok (.i2b, 1) := by decide +kernel
theorem d_cmp5_31 : decode jdk_52_method_21_code 31 = .ok (.bastore, 1) := by decide +kernel
theorem d_cmp5_32 : decode jdk_52_method_21_code 32 = .ok (.iinc 1 1, 3) := by decide +kernel
theorem d_cmp5_35 : decode jdk_52_method_21_code 35 = .ok (.iinc 3 1, 3) := by decide +kernel
theorem d_cmp5_38 : decode jdk_52_method_21_code 38 = .ok (.iinc 5 1, 3) := by decide +kernel
theorem d_cmp5_41 : decode jdk_52_method_21_code 41 = .ok (.goto (-38), 3) := by decide +kernel
theorem d_cmp5_44 : decode jdk_52_method_21_code 44 = .ok (.iload 4, 2) := by decide +kernel
theorem d_cmp5_46 : decode jdk_52_method_21_code 46 = .ok (.ireturn, 1) := by decide +kernel
theorem d_ckl_0 : decode jdk_65_method_131_code 0 = .ok (.iload_n 1, 1) := by decide +kernel
theorem d_ckl_1 : decode jdk_65_method_131_code 1 = .ok (.iload_n 0, 1) := by decide +kernel
theorem d_ckl_2 : decode jdk_65_method_131_code 2 = .ok (.if_icmp .ge 35, 3) := by decide +kernel
theorem d_ckl_37 : decode jdk_65_method_131_code 37 = .ok (.return_, 1) := by decide +kernel
theorem d_cor_0 : decode jdk_65_method_132_code 0 = .ok (.iload_n 1, 1) := by decide +kernel
theorem d_cor_1 : decode jdk_65_method_132_code 1 = .ok (.ifCond .ne 9, 3) := by decide +kernel
theorem d_cor_4 : decode jdk_65_method_132_code 4 = .ok (.iload_n 2, 1) := by decide +kernel
theorem d_cor_5 : decode jdk_65_method_132_code 5 = .ok (.aload_n 0, 1) := by decide +kernel
theorem d_cor_6 : decode jdk_65_method_132_code 6 = .ok (.arraylength, 1) := by decide +kernel
theorem d_cor_7 : decode jdk_65_method_132_code 7 = .ok (.if_icmp .eq 10, 3) := by decide +kernel
theorem d_cor_10 : decode jdk_65_method_132_code 10 = .ok (.aload_n 0, 1) := by decide +kernel
theorem d_cor_11 : decode jdk_65_method_132_code 11 = .ok (.iload_n 1, 1) := by decide +kernel
theorem d_cor_12 : decode jdk_65_method_132_code 12 = .ok (.iload_n 2, 1) := by decide +kernel
theorem d_cor_13 : decode jdk_65_method_132_code 13 = .ok (.invokestatic 339, 3) := by decide +kernel
theorem d_cor_16 : decode jdk_65_method_132_code 16 = .ok (.areturn, 1) := by decide +kernel
theorem d_corb_0 : decode jdk_65_method_133_code 0 = .ok (.iload_n 1, 1) := by decide +kernel
theorem d_corb_1 : decode jdk_65_method_133_code 1 = .ok (.iload_n 2, 1) := by decide +kernel
theorem d_corb_2 : decode jdk_65_method_133_code 2 = .ok (.invokestatic 343, 3) := by decide +kernel
theorem d_corb_5 : decode jdk_65_method_133_code 5 = .ok (.iload_n 2, 1) := by decide +kernel
theorem d_corb_6 : decode jdk_65_method_133_code 6 = .ok (.iload_n 1, 1) := by decide +kernel
theorem d_corb_7 : decode jdk_65_method_133_code 7 = .ok (.isub, 1) := by decide +kernel
theorem d_corb_8 : decode jdk_65_method_133_code 8 = .ok (.istore_n 3, 1) := by decide +kernel
theorem d_corb_9 : decode jdk_65_method_133_code 9 = .ok (.iload_n 3, 1) := by decide +kernel
theorem d_corb_10 : decode jdk_65_method_133_code 10 = .ok (.newarray .byte, 2) := by decide +kernel
theorem d_corb_12 : decode jdk_65_method_133_code 12 = .ok (.astore 4, 2) := by decide +kernel
theorem d_corb_14 : decode jdk_65_method_133_code 14 = .ok (.aload_n 0, 1) := by decide +kernel
theorem d_corb_15 : decode jdk_65_method_133_code 15 = .ok (.iload_n 1, 1) := by decide +kernel
theorem d_corb_16 : decode jdk_65_method_133_code 16 = .ok (.aload 4, 2) := by decide +kernel
theorem d_corb_18 : decode jdk_65_method_133_code 18 = .ok (.iconst 0, 1) := by decide +kernel
theorem d_corb_19 : decode jdk_65_method_133_code 19 = .ok (.aload_n 0, 1) := by decide +kernel
theorem d_corb_20 : decode jdk_65_method_133_code 20 = .ok (.arraylength, 1) := by decide +kernel
theorem d_corb_21 : decode jdk_65_method_133_code 21 = .ok (.iload_n 1, 1) := by decide +kernel
theorem d_corb_22 : decode jdk_65_method_133_code 22 = .ok (.isub, 1) := by decide +kernel
theorem d_corb_23 : decode jdk_65_method_133_code 23 = .ok (.iload_n 3, 1) := by decide +kernel
theorem d_corb_24 : decode jdk_65_method_133_code 24 = .ok (.invokestatic 304, 3) := by decide +kernel
theorem d_corb_27 : decode jdk_65_method_133_code 27 = .ok (.invokestatic 150, 3) := by decide +kernel
theorem d_corb_30 : decode jdk_65_method_133_code 30 = .ok (.aload 4, 2) := by decide +kernel
theorem d_corb_32 : decode jdk_65_method_133_code 32 = .ok (.areturn, 1) := by decide +kernel
theorem d_sbin_0 : decode jdk_67_method_1_code 0 = .ok (.aload_n 0, 1) := by decide +kernel
theorem d_sbin_1 : decode jdk_67_method_1_code 1 = .ok (.bipush 16, 2) := by decide +kernel
theorem d_sbin_3 : decode jdk_67_method_1_code 3 = .ok (.invokespecial 1, 3) := by decide +kernel
theorem d_sbin_6 : decode jdk_67_method_1_code 6 = .ok (.return_, 1) := by decide +kernel
theorem d_tstr_0 : decode jdk_67_method_42_code 0 = .ok (.new 18, 3) := by decide +kernel
theorem d_tstr_3 : decode jdk_67_method_42_code 3 = .ok (.dup, 1) := by decide +kernel
theorem d_tstr_4 : decode jdk_67_method_42_code 4 = .ok (.aload_n 0, 1) := by decide +kernel
theorem d_tstr_5 : decode jdk_67_method_42_code 5 = .ok (.invokespecial 137, 3) := by decide +kernel
theorem d_tstr_8 : decode jdk_67_method_42_code 8 = .ok (.areturn, 1) := by decide +kernel
theorem d_sapp_0 : decode jdk_67_method_7_code 0 = .ok (.aload_n 0, 1) := by decide +kernel
theorem d_sapp_1 : decode jdk_67_method_7_code 1 = .ok (.aload_n 1, 1) := by decide +kernel
theorem d_sapp_2 : decode jdk_67_method_7_code 2 = .ok (.invokespecial 29, 3) := by decide +kernel
theorem d_sapp_5 : decode jdk_67_method_7_code 5 = .ok (.pop, 1) := by decide +kernel
theorem d_sapp_6 : decode jdk_67_method_7_code 6 = .ok (.aload_n 0, 1) := by decide +kernel
theorem d_sapp_7 : decode jdk_67_method_7_code 7 = .ok (.areturn, 1) := by decide +kernel
theorem d_blen_0 : decode jdk_67_method_93_code 0 = .ok (.aload_n 0, 1) := by decide +kernel
theorem d_blen_1 : decode jdk_67_method_93_code 1 = .ok (.invokespecial 343, 3) := by decide +kernel
theorem d_blen_4 : decode jdk_67_method_93_code 4 = .ok (.ireturn, 1) := by decide +kernel
theorem d_aapp_0 : decode jdk_68_method_22_code 0 = .ok (.aload_n 1, 1) := by decide +kernel
theorem d_aapp_1 : decode jdk_68_method_22_code 1 = .ok (.ifnonnull 8, 3) := by decide +kernel
theorem d_aapp_9 : decode jdk_68_method_22_code 9 = .ok (.aload_n 1, 1) := by decide +kernel
theorem d_aapp_10 : decode jdk_68_method_22_code 10 = .ok (.invokevirtual 32, 3) := by decide +kernel
theorem d_aapp_13 : decode jdk_68_method_22_code 13 = .ok (.istore_n 2, 1) := by decide +kernel
theorem d_aapp_14 : decode jdk_68_method_22_code 14 = .ok (.aload_n 0, 1) := by decide +kernel
theorem d_aapp_15 : decode jdk_68_method_22_code 15 = .ok (.aload_n 0, 1) := by decide +kernel
theorem d_aapp_16 : decode jdk_68_method_22_code 16 = .ok (.getfield 79, 3) := by decide +kernel
theorem d_aapp_19 : decode jdk_68_method_22_code 19 = .ok (.iload_n 2, 1) := by decide +kernel
theorem d_aapp_20 : decode jdk_68_method_22_code 20 = .ok (.iadd, 1) := by decide +kernel
theorem d_aapp_21 : decode jdk_68_method_22_code 21 = .ok (.invokevirtual 100, 3) := by decide +kernel
theorem d_aapp_24 : decode jdk_68_method_22_code 24 = .ok (.aload_n 0, 1) := by decide +kernel
theorem d_aapp_25 : decode jdk_68_method_22_code 25 = .ok (.aload_n 0, 1) := by decide +kernel
theorem d_aapp_26 : decode jdk_68_method_22_code 26 = .ok (.getfield 79, 3) := by decide +kernel
theorem d_aapp_29 : decode jdk_68_method_22_code 29 = .ok (.aload_n 1, 1) := by decide +kernel
theorem d_aapp_30 : decode jdk_68_method_22_code 30 = .ok (.invokevirtual 208, 3) := by decide +kernel
theorem d_aapp_33 : decode jdk_68_method_22_code 33 = .ok (.aload_n 0, 1) := by decide +kernel
theorem d_aapp_34 : decode jdk_68_method_22_code 34 = .ok (.dup, 1) := by decide +kernel
theorem d_aapp_35 : decode jdk_68_method_22_code 35 = .ok (.getfield 79, 3) := by decide +kernel
theorem d_aapp_38 : decode jdk_68_method_22_code 38 = .ok (.iload_n 2, 1) := by decide +kernel
theorem d_aapp_39 : decode jdk_68_method_22_code 39 = .ok (.iadd, 1) := by decide +kernel
theorem d_aapp_40 : decode jdk_68_method_22_code 40 = .ok (.putfield 79, 3) := by decide +kernel
theorem d_aapp_43 : decode jdk_68_method_22_code 43 = .ok (.aload_n 0, 1) := by decide +kernel
theorem d_aapp_44 : decode jdk_68_method_22_code 44 = .ok (.areturn, 1) := by decide +kernel
theorem d_abin_0 : decode jdk_68_method_2_code 0 = .ok (.aload_n 0, 1) := by decide +kernel
theorem d_abin_1 : decode jdk_68_method_2_code 1 = .ok (.invokespecial 3, 3) := by decide +kernel
theorem d_abin_4 : decode jdk_68_method_2_code 4 = .ok (.getstatic 18, 3) := by decide +kernel
theorem d_abin_7 : decode jdk_68_method_2_code 7 = .ok (.ifCond .eq 18, 3) := by decide +kernel
theorem d_abin_10 : decode jdk_68_method_2_code 10 = .ok (.aload_n 0, 1) := by decide +kernel
theorem d_abin_11 : decode jdk_68_method_2_code 11 = .ok (.iload_n 1, 1) := by decide +kernel
theorem d_abin_12 : decode jdk_68_method_2_code 12 = .ok (.newarray .byte, 2) := by decide +kernel
theorem d_abin_14 : decode jdk_68_method_2_code 14 = .ok (.putfield 15, 3) := by decide +kernel
theorem d_abin_17 : decode jdk_68_method_2_code 17 = .ok (.aload_n 0, 1) := by decide +kernel
theorem d_abin_18 : decode jdk_68_method_2_code 18 = .ok (.iconst 0, 1) := by decide +kernel
theorem d_abin_19 : decode jdk_68_method_2_code 19 = .ok (.putfield 22, 3) := by decide +kernel
theorem d_abin_22 : decode jdk_68_method_2_code 22 = .ok (.goto 16, 3) := by decide +kernel
theorem d_abin_38 : decode jdk_68_method_2_code 38 = .ok (.return_, 1) := by decide +kernel
theorem d_gval_0 : decode jdk_68_method_64_code 0 = .ok (.aload_n 0, 1) := by decide +kernel
theorem d_gval_1 : decode jdk_68_method_64_code 1 = .ok (.getfield 15, 3) := by decide +kernel
theorem d_gval_4 : decode jdk_68_method_64_code 4 = .ok (.areturn, 1) := by decide +kernel
theorem d_ail1_0 : decode jdk_68_method_68_code 0 = .ok (.getstatic 18, 3) := by decide +kernel
theorem d_ail1_3 : decode jdk_68_method_68_code 3 = .ok (.ifCond .eq 14, 3) := by decide +kernel
theorem d_ail1_6 : decode jdk_68_method_68_code 6 = .ok (.aload_n 0, 1) := by decide +kernel
theorem d_ail1_7 : decode jdk_68_method_68_code 7 = .ok (.getfield 22, 3) := by decide +kernel
theorem d_ail1_10 : decode jdk_68_method_68_code 10 = .ok (.ifCond .ne 7, 3) := by decide +kernel
theorem d_ail1_13 : decode jdk_68_method_68_code 13 = .ok (.iconst 1, 1) := by decide +kernel
theorem d_ail1_14 : decode jdk_68_method_68_code 14 = .ok (.goto 4, 3) := by decide +kernel
theorem d_ail1_18 : decode jdk_68_method_68_code 18 = .ok (.ireturn, 1) := by decide +kernel
theorem d_alen_0 : decode jdk_68_method_6_code 0 = .ok (.aload_n 0, 1) := by decide +kernel
theorem d_alen_1 : decode jdk_68_method_6_code 1 = .ok (.getfield 79, 3) := by decide +kernel
theorem d_alen_4 : decode jdk_68_method_6_code 4 = .ok (.ireturn, 1) := by decide +kernel
theorem d_infl_0 : decode jdk_68_method_71_code 0 = .ok (.getstatic 18, 3) := by decide +kernel
theorem d_infl_3 : decode jdk_68_method_71_code 3 = .ok (.ifCond .eq 18, 3) := by decide +kernel
theorem d_infl_6 : decode jdk_68_method_71_code 6 = .ok (.aload_n 0, 1) := by decide +kernel
theorem d_infl_7 : decode jdk_68_method_71_code 7 = .ok (.getfield 22, 3) := by decide +kernel
theorem d_infl_10 : decode jdk_68_method_71_code 10 = .ok (.aload_n 1, 1) := by decide +kernel
theorem d_infl_11 : decode jdk_68_method_71_code 11 = .ok (.invokevirtual 40, 3) := by decide +kernel
theorem d_infl_14 : decode jdk_68_method_71_code 14 = .ok (.if_icmp .eq 7, 3) := by decide +kernel
theorem d_infl_21 : decode jdk_68_method_71_code 21 = .ok (.return_, 1) := by decide +kernel
theorem d_psta_0 : decode jdk_68_method_73_code 0 = .ok (.aload_n 0, 1) := by decide +kernel
theorem d_psta_1 : decode jdk_68_method_73_code 1 = .ok (.aload_n 2, 1) := by decide +kernel
theorem d_psta_2 : decode jdk_68_method_73_code 2 = .ok (.invokevirtual 397, 3) := by decide +kernel
theorem d_psta_5 : decode jdk_68_method_73_code 5 = .ok (.aload_n 2, 1) := by decide +kernel
theorem d_psta_6 : decode jdk_68_method_73_code 6 = .ok (.aload_n 0, 1) := by decide +kernel
theorem d_psta_7 : decode jdk_68_method_73_code 7 = .ok (.getfield 15, 3) := by decide +kernel
theorem d_psta_10 : decode jdk_68_method_73_code 10 = .ok (.iload_n 1, 1) := by decide +kernel
theorem d_psta_11 : decode jdk_68_method_73_code 11 = .ok (.aload_n 0, 1) := by decide +kernel
theorem d_psta_12 : decode jdk_68_method_73_code 12 = .ok (.getfield 22, 3) := by decide +kernel
theorem d_psta_15 : decode jdk_68_method_73_code 15 = .ok (.invokevirtual 399, 3) := by decide +kernel
theorem d_psta_18 : decode jdk_68_method_73_code 18 = .ok (.return_, 1) := by decide +kernel
theorem d_ecap_0 : decode jdk_68_method_9_code 0 = .ok (.aload_n 0, 1) := by decide +kernel
theorem d_ecap_1 : decode jdk_68_method_9_code 1 = .ok (.getfield 15, 3) := by decide +kernel
theorem d_ecap_4 : decode jdk_68_method_9_code 4 = .ok (.arraylength, 1) := by decide +kernel
theorem d_ecap_5 : decode jdk_68_method_9_code 5 = .ok (.aload_n 0, 1) := by decide +kernel
theorem d_ecap_6 : decode jdk_68_method_9_code 6 = .ok (.getfield 22, 3) := by decide +kernel
theorem d_ecap_9 : decode jdk_68_method_9_code 9 = .ok (.ishr, 1) := by decide +kernel
theorem d_ecap_10 : decode jdk_68_method_9_code 10 = .ok (.istore_n 2, 1) := by decide +kernel
theorem d_ecap_11 : decode jdk_68_method_9_code 11 = .ok (.iload_n 1, 1) := by decide +kernel
theorem d_ecap_12 : decode jdk_68_method_9_code 12 = .ok (.iload_n 2, 1) := by decide +kernel
theorem d_ecap_13 : decode jdk_68_method_9_code 13 = .ok (.isub, 1) := by decide +kernel
theorem d_ecap_14 : decode jdk_68_method_9_code 14 = .ok (.ifCond .le 24, 3) := by decide +kernel
theorem d_ecap_38 : decode jdk_68_method_9_code 38 = .ok (.return_, 1) := by decide +kernel
theorem d_brac_0 : decode method_3_code 0 = .ok (.iload_n 0, 1) := by decide +kernel
theorem d_brac_1 : decode method_3_code 1 = .ok (.bipush 123, 2) := by decide +kernel
theorem d_brac_3 : decode method_3_code 3 = .ok (.if_icmp .eq 9, 3) := by decide +kernel
theorem d_brac_6 : decode method_3_code 6 = .ok (.iload_n 0, 1) := by decide +kernel
theorem d_brac_7 : decode method_3_code 7 = .ok (.bipush 125, 2) := by decide +kernel
theorem d_brac_9 : decode method_3_code 9 = .ok (.if_icmp .ne 7, 3) := by decide +kernel
theorem d_brac_12 : decode method_3_code 12 = .ok (.iconst 1, 1) := by decide +kernel
theorem d_brac_13 : decode method_3_code 13 = .ok (.goto 4, 3) := by decide +kernel
theorem d_brac_16 : decode method_3_code 16 = .ok (.iconst 0, 1) := by decide +kernel
theorem d_brac_17 : decode method_3_code 17 = .ok (.ireturn, 1) := by decide +kernel
theorem d_expd_0 : decode method_4_code 0 = .ok (.aload 5, 2) := by decide +kernel
theorem d_expd_2 : decode method_4_code 2 = .ok (.invokevirtual 51, 3) := by decide +kernel
theorem d_expd_5 : decode method_4_code 5 = .ok (.istore 6, 2) := by decide +kernel
theorem d_expd_7 : decode method_4_code 7 = .ok (.iload 4, 2) := by decide +kernel
theorem d_expd_9 : decode method_4_code 9 = .ok (.iconst 3, 1) := by decide +kernel
theorem d_expd_10 : decode method_4_code 10 = .ok (.iadd, 1) := by decide +kernel
theorem d_expd_11 : decode method_4_code 11 = .ok (.iload 6, 2) := by decide +kernel
theorem d_expd_13 : decode method_4_code 13 = .ok (.iadd, 1) := by decide +kernel
theorem d_expd_14 : decode method_4_code 14 = .ok (.newarray .char, 2) := by decide +kernel
theorem d_expd_16 : decode method_4_code 16 = .ok (.astore 7, 2) := by decide +kernel
theorem d_expd_18 : decode method_4_code 18 = .ok (.aload 7, 2) := by decide +kernel
theorem d_expd_20 : decode method_4_code 20 = .ok (.iconst 0, 1) := by decide +kernel
theorem d_expd_21 : decode method_4_code 21 = .ok (.bipush 123, 2) := by decide +kernel
theorem d_expd_23 : decode method_4_code 23 = .ok (.castore, 1) := by decide +kernel
theorem d_expd_24 : decode method_4_code 24 = .ok (.aload 7, 2) := by decide +kernel
theorem d_expd_26 : decode method_4_code 26 = .ok (.iconst 1, 1) := by decide +kernel
theorem d_expd_27 : decode method_4_code 27 = .ok (.iload_n 0, 1) := by decide +kernel
theorem d_expd_28 : decode method_4_code 28 = .ok (.castore, 1) := by decide +kernel
theorem d_expd_29 : decode method_4_code 29 = .ok (.iload 4, 2) := by decide +kernel
theorem d_expd_31 : decode method_4_code 31 = .ok (.iconst 2, 1) := by decide +kernel
theorem d_expd_32 : decode method_4_code 32 = .ok (.if_icmp .lt 8, 3) := by decide +kernel
theorem d_expd_35 : decode method_4_code 35 = .ok (.aload 7, 2) := by decide +kernel
theorem d_expd_37 : decode method_4_code 37 = .ok (.iconst 2, 1) := by decide +kernel
theorem d_expd_38 : decode method_4_code 38 = .ok (.iload_n 1, 1) := by decide +kernel
theorem d_expd_39 : decode method_4_code 39 = .ok (.castore, 1) := by decide +kernel
theorem d_expd_40 : decode method_4_code 40 = .ok (.iload 4, 2) := by decide +kernel
theorem d_expd_42 : decode method_4_code 42 = .ok (.iconst 3, 1) := by decide +kernel
theorem d_expd_43 : decode method_4_code 43 = .ok (.if_icmp .lt 8, 3) := by decide +kernel
theorem d_expd_46 : decode method_4_code 46 = .ok (.aload 7, 2) := by decide +kernel
theorem d_expd_48 : decode method_4_code 48 = .ok (.iconst 3, 1) := by decide +kernel
theorem d_expd_49 : decode method_4_code 49 = .ok (.iload_n 2, 1) := by decide +kernel
theorem d_expd_50 : decode method_4_code 50 = .ok (.castore, 1) := by decide +kernel
theorem d_expd_51 : decode method_4_code 51 = .ok (.iload 4, 2) := by decide +kernel
theorem d_expd_53 : decode method_4_code 53 = .ok (.iconst 4, 1) := by decide +kernel
theorem d_expd_54 : decode method_4_code 54 = .ok (.if_icmp .lt 8, 3) := by decide +kernel
theorem d_expd_57 : decode method_4_code 57 = .ok (.aload 7, 2) := by decide +kernel
theorem d_expd_59 : decode method_4_code 59 = .ok (.iconst 4, 1) := by decide +kernel
theorem d_expd_60 : decode method_4_code 60 = .ok (.iload_n 3, 1) := by decide +kernel
theorem d_expd_61 : decode method_4_code 61 = .ok (.castore, 1) := by decide +kernel
theorem d_expd_62 : decode method_4_code 62 = .ok (.aload 7, 2) := by decide +kernel
theorem d_expd_64 : decode method_4_code 64 = .ok (.iload 4, 2) := by decide +kernel
theorem d_expd_66 : decode method_4_code 66 = .ok (.iconst 1, 1) := by decide +kernel
theorem d_expd_67 : decode method_4_code 67 = .ok (.iadd, 1) := by decide +kernel
theorem d_expd_68 : decode method_4_code 68 = .ok (.bipush 125, 2) := by decide +kernel
theorem d_expd_70 : decode method_4_code 70 = .ok (.castore, 1) := by decide +kernel
theorem d_expd_71 : decode method_4_code 71 = .ok (.aload 7, 2) := by decide +kernel
theorem d_expd_73 : decode method_4_code 73 = .ok (.iload 4, 2) := by decide +kernel
theorem d_expd_75 : decode method_4_code 75 = .ok (.iconst 2, 1) := by decide +kernel
theorem d_expd_76 : decode method_4_code 76 = .ok (.iadd, 1) := by decide +kernel
theorem d_expd_77 : decode method_4_code 77 = .ok (.bipush 58, 2) := by decide +kernel
theorem d_expd_79 : decode method_4_code 79 = .ok (.castore, 1) := by decide +kernel
theorem d_expd_80 : decode method_4_code 80 = .ok (.iload 4, 2) := by decide +kernel
theorem d_expd_82 : decode method_4_code 82 = .ok (.iconst 3, 1) := by decide +kernel
theorem d_expd_83 : decode method_4_code 83 = .ok (.iadd, 1) := by decide +kernel
theorem d_expd_84 : decode method_4_code 84 = .ok (.istore 8, 2) := by decide +kernel
theorem d_expd_86 : decode method_4_code 86 = .ok (.iload 6, 2) := by decide +kernel
theorem d_expd_88 : decode method_4_code 88 = .ok (.ifCond .le 14, 3) := by decide +kernel
theorem d_expd_91 : decode method_4_code 91 = .ok (.aload 7, 2) := by decide +kernel
theorem d_expd_93 : decode method_4_code 93 = .ok (.iload 8, 2) := by decide +kernel
theorem d_expd_95 : decode method_4_code 95 = .ok (.aload 5, 2) := by decide +kernel
theorem d_expd_97 : decode method_4_code 97 = .ok (.iconst 0, 1) := by decide +kernel
theorem d_expd_98 : decode method_4_code 98 = .ok (.invokevirtual 55, 3) := by decide +kernel
theorem d_expd_101 : decode method_4_code 101 = .ok (.castore, 1) := by decide +kernel
theorem d_expd_102 : decode method_4_code 102 = .ok (.iload 6, 2) := by decide +kernel
theorem d_expd_104 : decode method_4_code 104 = .ok (.iconst 1, 1) := by decide +kernel
theorem d_expd_105 : decode method_4_code 105 = .ok (.if_icmp .le 16, 3) := by decide +kernel
theorem d_expd_108 : decode method_4_code 108 = .ok (.aload 7, 2) := by decide +kernel
theorem d_expd_110 : decode method_4_code 110 = .ok (.iload 8, 2) := by decide +kernel
theorem d_expd_112 : decode method_4_code 112 = .ok (.iconst 1, 1) := by decide +kernel
theorem d_expd_113 : decode method_4_code 113 = .ok (.iadd, 1) := by decide +kernel
theorem d_expd_114 : decode method_4_code 114 = .ok (.aload 5, 2) := by decide +kernel
theorem d_expd_116 : decode method_4_code 116 = .ok (.iconst 1, 1) := by decide +kernel
theorem d_expd_117 : decode method_4_code 117 = .ok (.invokevirtual 55, 3) := by decide +kernel
theorem d_expd_120 : decode method_4_code 120 = .ok (.castore, 1) := by decide +kernel
theorem d_expd_121 : decode method_4_code 121 = .ok (.iload 6, 2) := by decide +kernel
theorem d_expd_123 : decode method_4_code 123 = .ok (.iconst 2, 1) := by decide +kernel
theorem d_expd_124 : decode method_4_code 124 = .ok (.if_icmp .le 16, 3) := by decide +kernel
theorem d_expd_127 : decode method_4_code 127 = .ok (.aload 7, 2) := by decide +kernel
theorem d_expd_129 : decode method_4_code 129 = .ok (.iload 8, 2) := by decide +kernel
theorem d_expd_131 : decode method_4_code 131 = .ok (.iconst 2, 1) := by decide +kernel
theorem d_expd_132 : decode method_4_code 132 = .ok (.iadd, 1) := by decide +kernel
theorem d_expd_133 : decode method_4_code 133 = .ok (.aload 5, 2) := by decide +kernel
theorem d_expd_135 : decode method_4_code 135 = .ok (.iconst 2, 1) := by decide +kernel
theorem d_expd_136 : decode method_4_code 136 = .ok (.invokevirtual 55, 3) := by decide +kernel
theorem d_expd_139 : decode method_4_code 139 = .ok (.castore, 1) := by decide +kernel
theorem d_expd_140 : decode method_4_code 140 = .ok (.iload 6, 2) := by decide +kernel
theorem d_expd_142 : decode method_4_code 142 = .ok (.iconst 3, 1) := by decide +kernel
theorem d_expd_143 : decode method_4_code 143 = .ok (.if_icmp .le 16, 3) := by decide +kernel
theorem d_expd_146 : decode method_4_code 146 = .ok (.aload 7, 2) := by decide +kernel
theorem d_expd_148 : decode method_4_code 148 = .ok (.iload 8, 2) := by decide +kernel
theorem d_expd_150 : decode method_4_code 150 = .ok (.iconst 3, 1) := by decide +kernel
theorem d_expd_151 : decode method_4_code 151 = .ok (.iadd, 1) := by decide +kernel
theorem d_expd_152 : decode method_4_code 152 = .ok (.aload 5, 2) := by decide +kernel
theorem d_expd_154 : decode method_4_code 154 = .ok (.iconst 3, 1) := by decide +kernel
theorem d_expd_155 : decode method_4_code 155 = .ok (.invokevirtual 55, 3) := by decide +kernel
theorem d_expd_158 : decode method_4_code 158 = .ok (.castore, 1) := by decide +kernel
theorem d_expd_159 : decode method_4_code 159 = .ok (.iload 6, 2) := by decide +kernel
theorem d_expd_161 : decode method_4_code 161 = .ok (.iconst 4, 1) := by decide +kernel
theorem d_expd_162 : decode method_4_code 162 = .ok (.if_icmp .le 16, 3) := by decide +kernel
theorem d_expd_165 : decode method_4_code 165 = .ok (.aload 7, 2) := by decide +kernel
theorem d_expd_167 : decode method_4_code 167 = .ok (.iload 8, 2) := by decide +kernel
theorem d_expd_169 : decode method_4_code 169 = .ok (.iconst 4, 1) := by decide +kernel
theorem d_expd_170 : decode method_4_code 170 = .ok (.iadd, 1) := by decide +kernel
theorem d_expd_171 : decode method_4_code 171 = .ok (.aload 5, 2) := by decide +kernel
theorem d_expd_173 : decode method_4_code 173 = .ok (.iconst 4, 1) := by decide +kernel
theorem d_expd_174 : decode method_4_code 174 = .ok (.invokevirtual 55, 3) := by decide +kernel
theorem d_expd_177 : decode method_4_code 177 = .ok (.castore, 1) := by decide +kernel
theorem d_expd_178 : decode method_4_code 178 = .ok (.iload 6, 2) := by decide +kernel
theorem d_expd_180 : decode method_4_code 180 = .ok (.iconst 5, 1) := by decide +kernel
theorem d_expd_181 : decode method_4_code 181 = .ok (.if_icmp .le 16, 3) := by decide +kernel
theorem d_expd_184 : decode method_4_code 184 = .ok (.aload 7, 2) := by decide +kernel
theorem d_expd_186 : decode method_4_code 186 = .ok (.iload 8, 2) := by decide +kernel
theorem d_expd_188 : decode method_4_code 188 = .ok (.iconst 5, 1) := by decide +kernel
theorem d_expd_189 : decode method_4_code 189 = .ok (.iadd, 1) := by decide +kernel
theorem d_expd_190 : decode method_4_code 190 = .ok (.aload 5, 2) := by decide +kernel
theorem d_expd_192 : decode method_4_code 192 = .ok (.iconst 5, 1) := by decide +kernel
theorem d_expd_193 : decode method_4_code 193 = .ok (.invokevirtual 55, 3) := by decide +kernel
theorem d_expd_196 : decode method_4_code 196 = .ok (.castore, 1) := by decide +kernel
theorem d_expd_197 : decode method_4_code 197 = .ok (.iload 6, 2) := by decide +kernel
theorem d_expd_199 : decode method_4_code 199 = .ok (.bipush 6, 2) := by decide +kernel
theorem d_expd_201 : decode method_4_code 201 = .ok (.if_icmp .le 18, 3) := by decide +kernel
theorem d_expd_204 : decode method_4_code 204 = .ok (.aload 7, 2) := by decide +kernel
theorem d_expd_206 : decode method_4_code 206 = .ok (.iload 8, 2) := by decide +kernel
theorem d_expd_208 : decode method_4_code 208 = .ok (.bipush 6, 2) := by decide +kernel
theorem d_expd_210 : decode method_4_code 210 = .ok (.iadd, 1) := by decide +kernel
theorem d_expd_211 : decode method_4_code 211 = .ok (.aload 5, 2) := by decide +kernel
theorem d_expd_213 : decode method_4_code 213 = .ok (.bipush 6, 2) := by decide +kernel
theorem d_expd_215 : decode method_4_code 215 = .ok (.invokevirtual 55, 3) := by decide +kernel
theorem d_expd_218 : decode method_4_code 218 = .ok (.castore, 1) := by decide +kernel
theorem d_expd_219 : decode method_4_code 219 = .ok (.iload 6, 2) := by decide +kernel
theorem d_expd_221 : decode method_4_code 221 = .ok (.bipush 7, 2) := by decide +kernel
theorem d_expd_223 : decode method_4_code 223 = .ok (.if_icmp .le 18, 3) := by decide +kernel
theorem d_expd_226 : decode method_4_code 226 = .ok (.aload 7, 2) := by decide +kernel
theorem d_expd_228 : decode method_4_code 228 = .ok (.iload 8, 2) := by decide +kernel
theorem d_expd_230 : decode method_4_code 230 = .ok (.bipush 7, 2) := by decide +kernel
theorem d_expd_232 : decode method_4_code 232 = .ok (.iadd, 1) := by decide +kernel
theorem d_expd_233 : decode method_4_code 233 = .ok (.aload 5, 2) := by decide +kernel
theorem d_expd_235 : decode method_4_code 235 = .ok (.bipush 7, 2) := by decide +kernel
theorem d_expd_237 : decode method_4_code 237 = .ok (.invokevirtual 55, 3) := by decide +kernel
theorem d_expd_240 : decode method_4_code 240 = .ok (.castore, 1) := by decide +kernel
theorem d_expd_241 : decode method_4_code 241 = .ok (.new 13, 3) := by decide +kernel
theorem d_expd_244 : decode method_4_code 244 = .ok (.dup, 1) := by decide +kernel
theorem d_expd_245 : decode method_4_code 245 = .ok (.aload 7, 2) := by decide +kernel
theorem d_expd_247 : decode method_4_code 247 = .ok (.invokespecial 15, 3) := by decide +kernel
theorem d_expd_250 : decode method_4_code 250 = .ok (.areturn, 1) := by decide +kernel
theorem d_kini_0 : decode prog_4_method_1_code 0 = .ok (.aload_n 0, 1) := by decide +kernel
theorem d_kini_1 : decode prog_4_method_1_code 1 = .ok (.invokespecial 1, 3) := by decide +kernel
theorem d_kini_4 : decode prog_4_method_1_code 4 = .ok (.aload_n 0, 1) := by decide +kernel
theorem d_kini_5 : decode prog_4_method_1_code 5 = .ok (.aload_n 1, 1) := by decide +kernel
theorem d_kini_6 : decode prog_4_method_1_code 6 = .ok (.putfield 7, 3) := by decide +kernel
theorem d_kini_9 : decode prog_4_method_1_code 9 = .ok (.return_, 1) := by decide +kernel
theorem d_kof_0 : decode prog_4_method_2_code 0 = .ok (.aload_n 0, 1) := by decide +kernel
theorem d_kof_1 : decode prog_4_method_2_code 1 = .ok (.ldc 13, 2) := by decide +kernel
theorem d_kof_3 : decode prog_4_method_2_code 3 = .ok (.invokestatic 14, 3) := by decide +kernel
theorem d_kof_6 : decode prog_4_method_2_code 6 = .ok (.pop, 1) := by decide +kernel
theorem d_kof_7 : decode prog_4_method_2_code 7 = .ok (.aload_n 0, 1) := by decide +kernel
theorem d_kof_8 : decode prog_4_method_2_code 8 = .ok (.invokevirtual 20, 3) := by decide +kernel
theorem d_kof_11 : decode prog_4_method_2_code 11 = .ok (.ifCond .eq 13, 3) := by decide +kernel
theorem d_kof_24 : decode prog_4_method_2_code 24 = .ok (.aload_n 0, 1) := by decide +kernel
theorem d_kof_25 : decode prog_4_method_2_code 25 = .ok (.bipush 123, 2) := by decide +kernel
theorem d_kof_27 : decode prog_4_method_2_code 27 = .ok (.invokevirtual 33, 3) := by decide +kernel
theorem d_kof_30 : decode prog_4_method_2_code 30 = .ok (.ifCond .ge 12, 3) := by decide +kernel
theorem d_kof_33 : decode prog_4_method_2_code 33 = .ok (.aload_n 0, 1) := by decide +kernel
theorem d_kof_34 : decode prog_4_method_2_code 34 = .ok (.bipush 125, 2) := by decide +kernel
theorem d_kof_36 : decode prog_4_method_2_code 36 = .ok (.invokevirtual 33, 3) := by decide +kernel
theorem d_kof_39 : decode prog_4_method_2_code 39 = .ok (.ifCond .lt 30, 3) := by decide +kernel
theorem d_kof_69 : decode prog_4_method_2_code 69 = .ok (.new 8, 3) := by decide +kernel
theorem d_kof_72 : decode prog_4_method_2_code 72 = .ok (.dup, 1) := by decide +kernel
theorem d_kof_73 : decode prog_4_method_2_code 73 = .ok (.aload_n 0, 1) := by decide +kernel
theorem d_kof_74 : decode prog_4_method_2_code 74 = .ok (.invokespecial 50, 3) := by decide +kernel
theorem d_kof_77 : decode prog_4_method_2_code 77 = .ok (.areturn, 1) := by decide +kernel
theorem d_lkey_0 : decode prog_4_method_3_code 0 = .ok (.aload_n 0, 1) := by decide +kernel
theorem d_lkey_1 : decode prog_4_method_3_code 1 = .ok (.getfield 7, 3) := by decide +kernel
theorem d_lkey_4 : decode prog_4_method_3_code 4 = .ok (.areturn, 1) := by decide +kernel
theorem d_fkey_0 : decode prog_4_method_4_code 0 = .ok (.aload_n 0, 1) := by decide +kernel
theorem d_fkey_1 : decode prog_4_method_4_code 1 = .ok (.ldc 51, 2) := by decide +kernel
theorem d_fkey_3 : decode prog_4_method_4_code 3 = .ok (.invokevirtual 53, 3) := by decide +kernel
theorem d_fkey_6 : decode prog_4_method_4_code 6 = .ok (.areturn, 1) := by decide +kernel
theorem d_rkey_0 : decode prog_4_method_5_code 0 = .ok (.aload_n 0, 1) := by decide +kernel
theorem d_rkey_1 : decode prog_4_method_5_code 1 = .ok (.ldc 57, 2) := by decide +kernel
theorem d_rkey_3 : decode prog_4_method_5_code 3 = .ok (.invokevirtual 53, 3) := by decide +kernel
theorem d_rkey_6 : decode prog_4_method_5_code 6 = .ok (.areturn, 1) := by decide +kernel
theorem d_wkey_0 : decode prog_4_method_6_code 0 = .ok (.aload_n 0, 1) := by decide +kernel
theorem d_wkey_1 : decode prog_4_method_6_code 1 = .ok (.ldc 59, 2) := by decide +kernel
theorem d_wkey_3 : decode prog_4_method_6_code 3 = .ok (.invokevirtual 53, 3) := by decide +kernel
theorem d_wkey_6 : decode prog_4_method_6_code 6 = .ok (.areturn, 1) := by decide +kernel
theorem d_htag_0 : decode prog_4_method_7_code 0 = .ok (.new 37, 3) := by decide +kernel
theorem d_htag_3 : decode prog_4_method_7_code 3 = .ok (.dup, 1) := by decide +kernel
theorem d_htag_4 : decode prog_4_method_7_code 4 = .ok (.invokespecial 39, 3) := by decide +kernel
theorem d_htag_7 : decode prog_4_method_7_code 7 = .ok (.ldc 61, 2) := by decide +kernel
theorem d_htag_9 : decode prog_4_method_7_code 9 = .ok (.invokevirtual 42, 3) := by decide +kernel
theorem d_htag_12 : decode prog_4_method_7_code 12 = .ok (.aload_n 0, 1) := by decide +kernel
theorem d_htag_13 : decode prog_4_method_7_code 13 = .ok (.getfield 7, 3) := by decide +kernel
theorem d_htag_16 : decode prog_4_method_7_code 16 = .ok (.invokevirtual 42, 3) := by decide +kernel
theorem d_htag_19 : decode prog_4_method_7_code 19 = .ok (.ldc 63, 2) := by decide +kernel
theorem d_htag_21 : decode prog_4_method_7_code 21 = .ok (.invokevirtual 42, 3) := by decide +kernel
theorem d_htag_24 : decode prog_4_method_7_code 24 = .ok (.aload_n 1, 1) := by decide +kernel
theorem d_htag_25 : decode prog_4_method_7_code 25 = .ok (.invokevirtual 42, 3) := by decide +kernel
theorem d_htag_28 : decode prog_4_method_7_code 28 = .ok (.invokevirtual 46, 3) := by decide +kernel
theorem d_htag_31 : decode prog_4_method_7_code 31 = .ok (.areturn, 1) := by decide +kernel
/-- a char's low byte, signed: what a Latin-1 String holds of it -/
def b8 (c : Int32) : Int32 := c.toInt8.toInt32
theorem b8_b8 (c : Int32) : (b8 c).toInt8.toInt32 = b8 c := by simp [b8]
theorem set_next {f : Int32 → Value} {cs : List Int32} {i k : Nat} {z : Value} (hi : i < cs.length) : ((cs.take i).map f ++ List.replicate (k + 1) z).set i (f cs[i]) = (cs.take (i + 1)).map f ++ List.replicate k z := by
  have hl : ((cs.take i).map f).length = i := by simp; omega
  have e : (cs.take (i + 1)).map f = (cs.take i).map f ++ [f cs[i]] := by
    rw [List.take_add_one, List.getElem?_eq_getElem hi, List.map_append]; rfl
  rw [List.set_append_right _ _ (by omega), hl, Nat.sub_self, List.replicate_succ, List.set_cons_zero, e, List.append_assoc]; rfl
theorem hcs0 : ∀ d ∈ ([] : List Int32), ¬ d < 0 ∧ ¬ 255 < d := fun d hd => nomatch hd
theorem hcsC {c : Int32} {cs : List Int32} (p : ¬ c < 0 ∧ ¬ 255 < c) (q : ∀ d ∈ cs, ¬ d < 0 ∧ ¬ 255 < d) : ∀ d ∈ c :: cs, ¬ d < 0 ∧ ¬ 255 < d := fun d hd => (List.mem_cons.mp hd).elim (fun e => e ▸ p) (q d)
theorem sub1 {a : Addr} {sf : List Addr} (h : a ∈ sf) : ∀ z ∈ [a], z ∈ sf := fun z hz => by cases List.mem_singleton.mp hz; exact h
theorem sub0 {sf : List Addr} : ∀ z ∈ ([] : List Addr), z ∈ sf := fun z hz => nomatch hz
theorem nar_c {c : Int32} (h0 : ¬ c < 0) (h1 : ¬ 255 < c) : nar .char c = c := by
  have q : c &&& 255 = c := by
    rw [← Int32.toInt_inj, c_mask c 255 8 (by omega) (by decide)]
    rw [Int32.lt_iff_toInt_lt] at h0 h1
    have e1 : (0 : Int32).toInt = 0 := by decide
    have e2 : (255 : Int32).toInt = 255 := by decide
    omega
  show c.toUInt32.toUInt16.toUInt32.toInt32 = c
  have := i2c_mask c
  rw [q] at this; exact this
theorem chr_rng (x : Int32) : ¬ (x &&& 255).toUInt32.toUInt16.toUInt32.toInt32 < 0 ∧ ¬ 255 < (x &&& 255).toUInt32.toUInt16.toUInt32.toInt32 := by
  rw [i2c_mask]
  have h := c_mask x 255 8 (by omega) (by decide)
  rw [Int32.lt_iff_toInt_lt, Int32.lt_iff_toInt_lt, h]
  have e1 : (0 : Int32).toInt = 0 := by decide
  have e2 : (255 : Int32).toInt = 255 := by decide
  rw [e1, e2]
  omega
theorem b8_inj {a c : Int32} (ha : ¬ a < 0 ∧ ¬ 255 < a) (hc : ¬ c < 0 ∧ ¬ 255 < c) (q : b8 a = b8 c) : a = c := by
  have h1 := c_i2b a
  have h2 := c_i2b c
  have e := congrArg Int32.toInt q
  unfold b8 at e
  obtain ⟨a1, a2⟩ := ha
  obtain ⟨c1, c2⟩ := hc
  rw [Int32.lt_iff_toInt_lt] at a1 a2 c1 c2
  have e1 : (0 : Int32).toInt = 0 := by decide
  have e2 : (255 : Int32).toInt = 255 := by decide
  rw [← Int32.toInt_inj]
  omega
theorem shr0 (n : Int32) : n >>> ((0 : Int32) &&& 31) = n := by
  rw [show ((0 : Int32) &&& 31) = 0 by decide]
  apply Int32.toBitVec_inj.mp
  simp
theorem shl0 (n : Int32) : n <<< ((0 : Int32) &&& 31) = n := by
  rw [show ((0 : Int32) &&& 31) = 0 by decide]
  apply Int32.toBitVec_inj.mp
  simp
/-- the char that a Latin-1 byte stands for -/
def u8 (b : Int32) : Int32 := (b &&& 255).toUInt32.toUInt16.toUInt32.toInt32
theorem nar_u8 (b : Int32) : narrow .char (.int (u8 b)) = .int (u8 b) := by
  have h := chr_rng b
  have := nar_c (c := u8 b) h.1 h.2
  exact congrArg Value.int this
theorem u8_b8 {c : Int32} (h : ¬ c < 0 ∧ ¬ 255 < c) : u8 (b8 c) = c := by
  unfold u8
  rw [i2c_mask]
  have h1 := c_i2b c
  have h2 := c_mask (b8 c) 255 8 (by omega) (by decide)
  obtain ⟨a1, a2⟩ := h
  rw [Int32.lt_iff_toInt_lt] at a1 a2
  have e1 : (0 : Int32).toInt = 0 := by decide
  have e2 : (255 : Int32).toInt = 255 := by decide
  rw [← Int32.toInt_inj, h2]
  unfold b8
  omega
/-- bytes that fit -/
abbrev BL (bs : List Int32) : Prop := ∀ b ∈ bs, fits .byte (.int b) = true
theorem BL.b8 (cs : List Int32) : BL (cs.map b8) := fun b hb => by
  obtain ⟨c, -, rfl⟩ := List.mem_map.mp hb
  exact fits_nar_byte c
theorem BL.app {as bs : List Int32} (h1 : BL as) (h2 : BL bs) : BL (as ++ bs) := fun b hb => (List.mem_append.mp hb).elim (h1 b) (h2 b)
theorem BL.rep (n : Nat) : BL (List.replicate n 0) := fun b hb => by rw [List.eq_of_mem_replicate hb]; rfl
theorem BL.vals {bs : List Int32} (h : BL bs) : ∀ v ∈ bs.map Value.int, fits .byte v = true := fun v hv => by
  obtain ⟨b, hb, rfl⟩ := List.mem_map.mp hv
  exact h b hb
def b_cmp5 : Bx := (({ frames := 0, cells := 0, slots := 0, locals := 0 } : Room), (⟨"java/lang/StringUTF16", "compress", "([CI[BII)I"⟩ : MethodName), jdk_52_method_21_code, 7, (Option.some Jvm.ClassFile.FieldType.int))
theorem ef_cmp5 (a d : Addr) (cs : List Int32) (mI : MethodId) : entryFrame mI #[.ref a, .int (0 : Int32), .ref d, .int (0 : Int32), .int (Int32.ofNat cs.length)] 7 = mkF mI 0 #[.val (.ref a), .val (.int (0 : Int32)), .val (.ref d), .val (.int (0 : Int32)), .val (.int (Int32.ofNat cs.length)), .unset, .unset] [] := by first | (simp [entryFrame, mkF, argsToLocals, Value.category]; done) | rfl
theorem pn_java_lang_StringUTF16 : plainName "java/lang/StringUTF16" = true := by first | (simp [plainName, overriddenIn]; done) | decide +kernel
theorem pd_cmp5 : parseMethodDescriptor "([CI[BII)I" = some ⟨[(.array .char), .int, (.array .byte), .int, .int], some .int⟩ := by decide +kernel
set_option maxRecDepth 65536 in
set_option maxHeartbeats 4000000 in
theorem ct_cmp5 {a0 : Array Value} {Z : State} (hw : ∀ d ∈ tables_1, d.before a0 Z = true) (l : Launch) (nar kn : Bool) (hnr : nar = false) (h0 : Heap) (a d : Addr) (cs : List Int32) (Fa : Ar Z h0 a .char (cs.map Value.int)) (Fd : Ar Z h0 d .byte (List.replicate cs.length (.int 0))) (hne : a ≠ d) (hcs : ∀ c ∈ cs, ¬ c < 0 ∧ ¬ 255 < c) :
    Ct l Z EL1 (⟨"java/lang/StringUTF16", "compress", "([CI[BII)I"⟩ : MethodName) jdk_52_method_21_code 7 (Option.some Jvm.ClassFile.FieldType.int) ({ frames := 0, cells := 0, slots := 0, locals := 0 } : Room) #[.ref a, .int (0 : Int32), .ref d, .int (0 : Int32), .int (Int32.ofNat cs.length)] h0 [d] nar kn (fun v h sn => v = some (.int (Int32.ofNat cs.length)) ∧ sn = [] ∧ Ar Z h d .byte (cs.map fun c => Value.int (b8 c))) := by
  refine Ct.intro (plainFor_of_name pn_java_lang_StringUTF16) (ew hw) (ef_cmp5 a d cs) ?_
  intro x hl hn0 hkn hsf hh H0
  have hnar : x.nar = false := hn0.trans hnr
  have H0 : Hr x b_cmp5 Z EL1 0 0 h0 [d] 0 #[.val (.ref a), .val (.int (0 : Int32)), .val (.ref d), .val (.int (0 : Int32)), .val (.int (Int32.ofNat cs.length)), .unset, .unset] [] := H0
  have hlen : cs.length < 2147483648 := by simpa using Fa.len
  have H1 : Hr x b_cmp5 Z EL1 0 0 h0 [d] 1 #[.val (.ref a), .val (.int (0 : Int32)), .val (.ref d), .val (.int (0 : Int32)), .val (.int (Int32.ofNat cs.length)), .unset, .unset] [.int (0 : Int32)] := H0.iconst d_cmp5_0
  have H2 : Hr x b_cmp5 Z EL1 0 0 h0 [d] 3 #[.val (.ref a), .val (.int (0 : Int32)), .val (.ref d), .val (.int (0 : Int32)), .val (.int (Int32.ofNat cs.length)), .val (.int (0 : Int32)), .unset] [] := H1.istore d_cmp5_1
  have loop : ∀ (k i : Nat) (h : Heap) (o : Slot), i + k = cs.length → (o = .unset ∨ ∃ w, o = .val w ∧ w.category = 1) → Ar Z h a .char (cs.map Value.int) → Ar Z h d .byte ((cs.take i).map (fun c => Value.int (b8 c)) ++ List.replicate k (.int 0)) → Hr x b_cmp5 Z EL1 0 0 h [d] 3 #[.val (.ref a), .val (.int (Int32.ofNat i)), .val (.ref d), .val (.int (Int32.ofNat i)), .val (.int (Int32.ofNat cs.length)), .val (.int (Int32.ofNat i)), o] [] → Ends x b_cmp5 Z EL1 (fun v h sn => v = some (.int (Int32.ofNat cs.length)) ∧ sn = [] ∧ Ar Z h d .byte (cs.map fun c => Value.int (b8 c))) := by
    intro k
    induction k with
    | zero =>
      intro i h o hi ho Fa Fd H
      obtain rfl : i = cs.length := by omega
      have H3 : Hr x b_cmp5 Z EL1 0 0 h [d] 5 #[.val (.ref a), .val (.int (Int32.ofNat cs.length)), .val (.ref d), .val (.int (Int32.ofNat cs.length)), .val (.int (Int32.ofNat cs.length)), .val (.int (Int32.ofNat cs.length)), o] [.int (Int32.ofNat cs.length)] := H.iload d_cmp5_3
      have H4 : Hr x b_cmp5 Z EL1 0 0 h [d] 7 #[.val (.ref a), .val (.int (Int32.ofNat cs.length)), .val (.ref d), .val (.int (Int32.ofNat cs.length)), .val (.int (Int32.ofNat cs.length)), .val (.int (Int32.ofNat cs.length)), o] [.int (Int32.ofNat cs.length), .int (Int32.ofNat cs.length)] := H3.iload d_cmp5_5
      have H5 : Hr x b_cmp5 Z EL1 0 0 h [d] 44 #[.val (.ref a), .val (.int (Int32.ofNat cs.length)), .val (.ref d), .val (.int (Int32.ofNat cs.length)), .val (.int (Int32.ofNat cs.length)), .val (.int (Int32.ofNat cs.length)), o] [] := H4.icmpT d_cmp5_7 (XT.ii_ge_t (by simp))
      have H6 : Hr x b_cmp5 Z EL1 0 0 h [d] 46 #[.val (.ref a), .val (.int (Int32.ofNat cs.length)), .val (.ref d), .val (.int (Int32.ofNat cs.length)), .val (.int (Int32.ofNat cs.length)), .val (.int (Int32.ofNat cs.length)), o] [.int (Int32.ofNat cs.length)] := H5.iload d_cmp5_44
      exact H6.finI d_cmp5_46 ⟨rfl, rfl, by simpa using Fd⟩ sub0
    | succ k ih =>
      intro i h o hi ho Fa Fd H
      have hi1 : i < cs.length := by omega
      have hlt : Int32.ofNat i < Int32.ofNat cs.length := by rw [Int32.lt_iff_toInt_lt, toInt_of rfl (by omega), toInt_of rfl (by omega)]; omega
      obtain ⟨hc0, hc1⟩ := hcs cs[i] (List.getElem_mem hi1)
      have H3 : Hr x b_cmp5 Z EL1 0 0 h [d] 5 #[.val (.ref a), .val (.int (Int32.ofNat i)), .val (.ref d), .val (.int (Int32.ofNat i)), .val (.int (Int32.ofNat cs.length)), .val (.int (Int32.ofNat i)), o] [.int (Int32.ofNat i)] := H.iload d_cmp5_3
      have H4 : Hr x b_cmp5 Z EL1 0 0 h [d] 7 #[.val (.ref a), .val (.int (Int32.ofNat i)), .val (.ref d), .val (.int (Int32.ofNat i)), .val (.int (Int32.ofNat cs.length)), .val (.int (Int32.ofNat i)), o] [.int (Int32.ofNat cs.length), .int (Int32.ofNat i)] := H3.iload d_cmp5_5
      have H5 : Hr x b_cmp5 Z EL1 0 0 h [d] 10 #[.val (.ref a), .val (.int (Int32.ofNat i)), .val (.ref d), .val (.int (Int32.ofNat i)), .val (.int (Int32.ofNat cs.length)), .val (.int (Int32.ofNat i)), o] [] := H4.icmpF d_cmp5_7 (XT.ii_ge_f hlt)
      have H6 : Hr x b_cmp5 Z EL1 0 0 h [d] 11 #[.val (.ref a), .val (.int (Int32.ofNat i)), .val (.ref d), .val (.int (Int32.ofNat i)), .val (.int (Int32.ofNat cs.length)), .val (.int (Int32.ofNat i)), o] [.ref a] := H5.aloadN d_cmp5_10
      have H7 : Hr x b_cmp5 Z EL1 0 0 h [d] 12 #[.val (.ref a), .val (.int (Int32.ofNat i)), .val (.ref d), .val (.int (Int32.ofNat i)), .val (.int (Int32.ofNat cs.length)), .val (.int (Int32.ofNat i)), o] [.int (Int32.ofNat i), .ref a] := H6.iloadN d_cmp5_11
      have H8 : Hr x b_cmp5 Z EL1 0 0 h [d] 13 #[.val (.ref a), .val (.int (Int32.ofNat i)), .val (.ref d), .val (.int (Int32.ofNat i)), .val (.int (Int32.ofNat cs.length)), .val (.int (Int32.ofNat i)), o] [.int (cs[i])] := H7.caload Fa d_cmp5_12 (i := i) rfl (by simp [hi1])
      have H9 : Hr x b_cmp5 Z EL1 0 0 h [d] 15 #[.val (.ref a), .val (.int (Int32.ofNat i)), .val (.ref d), .val (.int (Int32.ofNat i)), .val (.int (Int32.ofNat cs.length)), .val (.int (Int32.ofNat i)), .val (.int (cs[i]))] [] := H8.istore d_cmp5_13 (hl := XS.store1 (o := o) rfl ho rfl)
      have H10 : Hr x b_cmp5 Z EL1 0 0 h [d] 17 #[.val (.ref a), .val (.int (Int32.ofNat i)), .val (.ref d), .val (.int (Int32.ofNat i)), .val (.int (Int32.ofNat cs.length)), .val (.int (Int32.ofNat i)), .val (.int (cs[i]))] [.int (cs[i])] := H9.iload d_cmp5_15
      have H11 : Hr x b_cmp5 Z EL1 0 0 h [d] 20 #[.val (.ref a), .val (.int (Int32.ofNat i)), .val (.ref d), .val (.int (Int32.ofNat i)), .val (.int (Int32.ofNat cs.length)), .val (.int (Int32.ofNat i)), .val (.int (cs[i]))] [.int (255 : Int32), .int (cs[i])] := H10.sipush d_cmp5_17
      have H12 : Hr x b_cmp5 Z EL1 0 0 h [d] 26 #[.val (.ref a), .val (.int (Int32.ofNat i)), .val (.ref d), .val (.int (Int32.ofNat i)), .val (.int (Int32.ofNat cs.length)), .val (.int (Int32.ofNat i)), .val (.int (cs[i]))] [] := H11.icmpT d_cmp5_20 (XT.ii_le_t hc1)
      have H13 : Hr x b_cmp5 Z EL1 0 0 h [d] 27 #[.val (.ref a), .val (.int (Int32.ofNat i)), .val (.ref d), .val (.int (Int32.ofNat i)), .val (.int (Int32.ofNat cs.length)), .val (.int (Int32.ofNat i)), .val (.int (cs[i]))] [.ref d] := H12.aloadN d_cmp5_26
      have H14 : Hr x b_cmp5 Z EL1 0 0 h [d] 28 #[.val (.ref a), .val (.int (Int32.ofNat i)), .val (.ref d), .val (.int (Int32.ofNat i)), .val (.int (Int32.ofNat cs.length)), .val (.int (Int32.ofNat i)), .val (.int (cs[i]))] [.int (Int32.ofNat i), .ref d] := H13.iloadN d_cmp5_27
      have H15 : Hr x b_cmp5 Z EL1 0 0 h [d] 30 #[.val (.ref a), .val (.int (Int32.ofNat i)), .val (.ref d), .val (.int (Int32.ofNat i)), .val (.int (Int32.ofNat cs.length)), .val (.int (Int32.ofNat i)), .val (.int (cs[i]))] [.int (cs[i]), .int (Int32.ofNat i), .ref d] := H14.iload d_cmp5_28
      have H16 : Hr x b_cmp5 Z EL1 0 0 h [d] 31 #[.val (.ref a), .val (.int (Int32.ofNat i)), .val (.ref d), .val (.int (Int32.ofNat i)), .val (.int (Int32.ofNat cs.length)), .val (.int (Int32.ofNat i)), .val (.int (cs[i]))] [.int (b8 cs[i]), .int (Int32.ofNat i), .ref d] := H15.i2b d_cmp5_30
      obtain ⟨h', Wd, H17⟩ := H16.bastore (List.mem_singleton.mpr rfl) Fd d_cmp5_31 (i := i) rfl (by simp; omega) (hw := (b8_b8 _))
      have H17 : Hr x b_cmp5 Z EL1 0 0 h' [d] 32 #[.val (.ref a), .val (.int (Int32.ofNat i)), .val (.ref d), .val (.int (Int32.ofNat i)), .val (.int (Int32.ofNat cs.length)), .val (.int (Int32.ofNat i)), .val (.int (cs[i]))] [] := H17
      have H18 : Hr x b_cmp5 Z EL1 0 0 h' [d] 35 #[.val (.ref a), .val (.int (Int32.ofNat (i + 1))), .val (.ref d), .val (.int (Int32.ofNat i)), .val (.int (Int32.ofNat cs.length)), .val (.int (Int32.ofNat i)), .val (.int (cs[i]))] [] := H17.iinc d_cmp5_32 (v := (Int32.ofNat (i + 1))) (hv := (inc_ofNat i).symm)
      have H19 : Hr x b_cmp5 Z EL1 0 0 h' [d] 38 #[.val (.ref a), .val (.int (Int32.ofNat (i + 1))), .val (.ref d), .val (.int (Int32.ofNat (i + 1))), .val (.int (Int32.ofNat cs.length)), .val (.int (Int32.ofNat i)), .val (.int (cs[i]))] [] := H18.iinc d_cmp5_35 (v := (Int32.ofNat (i + 1))) (hv := (inc_ofNat i).symm)
      have H20 : Hr x b_cmp5 Z EL1 0 0 h' [d] 41 #[.val (.ref a), .val (.int (Int32.ofNat (i + 1))), .val (.ref d), .val (.int (Int32.ofNat (i + 1))), .val (.int (Int32.ofNat cs.length)), .val (.int (Int32.ofNat (i + 1))), .val (.int (cs[i]))] [] := H19.iinc d_cmp5_38 (v := (Int32.ofNat (i + 1))) (hv := (inc_ofNat i).symm)
      have H21 : Hr x b_cmp5 Z EL1 0 0 h' [d] 3 #[.val (.ref a), .val (.int (Int32.ofNat (i + 1))), .val (.ref d), .val (.int (Int32.ofNat (i + 1))), .val (.int (Int32.ofNat cs.length)), .val (.int (Int32.ofNat (i + 1))), .val (.int (cs[i]))] [] := H20.goto d_cmp5_41
      refine ih (i + 1) _ _ (by omega) (Or.inr ⟨_, rfl, rfl⟩) (Fa.other Wd hne) ?_ H21
      have := Fd.set Wd; rw [set_next (f := fun c => Value.int (b8 c)) hi1] at this; exact this
  exact loop cs.length 0 h0 .unset (by omega) (Or.inl rfl) Fa (by simpa using Fd) H2
def b_cmp3 (n : Nat) : Bx := (({ frames := 1, cells := 1, slots := n, locals := 18 } : Room), (⟨"java/lang/StringUTF16", "compress", "([CII)[B"⟩ : MethodName), jdk_52_method_16_code, 6, (Option.some (Jvm.ClassFile.FieldType.array Jvm.ClassFile.FieldType.byte)))
theorem ef_cmp3 (a : Addr) (cs : List Int32) (mI : MethodId) : entryFrame mI #[.ref a, .int (0 : Int32), .int (Int32.ofNat cs.length)] 6 = mkF mI 0 #[.val (.ref a), .val (.int (0 : Int32)), .val (.int (Int32.ofNat cs.length)), .unset, .unset, .unset] [] := by first | (simp [entryFrame, mkF, argsToLocals, Value.category]; done) | rfl
theorem pd_cmp3 : parseMethodDescriptor "([CII)[B" = some ⟨[(.array .char), .int, .int], some (.array .byte)⟩ := by decide +kernel
set_option maxRecDepth 65536 in
set_option maxHeartbeats 4000000 in
theorem ct_cmp3 {a0 : Array Value} {Z : State} (hw : ∀ d ∈ tables_1, d.before a0 Z = true) (l : Launch) (nar kn : Bool) (hnr : nar = false) (h0 : Heap) (a : Addr) (cs : List Int32) (Fa : Ar Z h0 a .char (cs.map Value.int)) (hcap : cs.length ≤ 4000) (hcs : ∀ c ∈ cs, ¬ c < 0 ∧ ¬ 255 < c) :
    Ct l Z EL1 (⟨"java/lang/StringUTF16", "compress", "([CII)[B"⟩ : MethodName) jdk_52_method_16_code 6 (Option.some (Jvm.ClassFile.FieldType.array Jvm.ClassFile.FieldType.byte)) ({ frames := 1, cells := 1, slots := cs.length, locals := 18 } : Room) #[.ref a, .int (0 : Int32), .int (Int32.ofNat cs.length)] h0 [] nar kn (fun v h sn => ∃ t, v = some (.ref t) ∧ h0.size ≤ t ∧ sn = [t] ∧ Ar Z h t .byte (cs.map fun c => Value.int (b8 c))) := by
  refine Ct.intro (plainFor_of_name pn_java_lang_StringUTF16) (ew hw) (ef_cmp3 a cs) ?_
  intro x hl hn0 hkn hsf hh H0
  have hnar : x.nar = false := hn0.trans hnr
  have H0 : Hr x (b_cmp3 cs.length) Z EL1 0 0 h0 [] 0 #[.val (.ref a), .val (.int (0 : Int32)), .val (.int (Int32.ofNat cs.length)), .unset, .unset, .unset] [] := H0
  have hclamp : (Int32.ofNat cs.length).toNatClampNeg = cs.length := clamp_of rfl (by omega)
  have hnn : ¬ Int32.ofNat cs.length < 0 := by rw [Int32.lt_iff_toInt_lt, toInt_of rfl (by omega)]; simp
  have H1 : Hr x (b_cmp3 cs.length) Z EL1 0 0 h0 [] 1 #[.val (.ref a), .val (.int (0 : Int32)), .val (.int (Int32.ofNat cs.length)), .unset, .unset, .unset] [.int (Int32.ofNat cs.length)] := H0.iloadN d_cmp3_0
  obtain ⟨h1, E1, Fd, H2⟩ := H1.newarray (aty := .byte) (cap := cs.length) (w23 hw) d_cmp3_1 hnn (Nat.le_of_eq hclamp) (by omega) (by first | (simp [b_cmp3, Bx.R]; done) | (simp [b_cmp3, Bx.R]; omega)) (by first | (simp [b_cmp3, Bx.R]; done) | (simp [b_cmp3, Bx.R]; omega))
  obtain ⟨d, g_d⟩ : ∃ z, z = h0.size := ⟨_, rfl⟩
  rw [← g_d] at Fd H2
  have Fd : Ar Z h1 d .byte (List.replicate cs.length (.int 0)) := (by have := Fd; rw [hclamp] at this; exact this)
  have H2 : Hr x (b_cmp3 cs.length) Z EL1 1 (0 + cs.length) h1 [d] 3 #[.val (.ref a), .val (.int (0 : Int32)), .val (.int (Int32.ofNat cs.length)), .unset, .unset, .unset] [.ref d] := H2
  have H3 : Hr x (b_cmp3 cs.length) Z EL1 1 (0 + cs.length) h1 [d] 4 #[.val (.ref a), .val (.int (0 : Int32)), .val (.int (Int32.ofNat cs.length)), .val (.ref d), .unset, .unset] [] := H2.astoreN d_cmp3_3
  have H4 : Hr x (b_cmp3 cs.length) Z EL1 1 (0 + cs.length) h1 [d] 5 #[.val (.ref a), .val (.int (0 : Int32)), .val (.int (Int32.ofNat cs.length)), .val (.ref d), .unset, .unset] [.ref a] := H3.aloadN d_cmp3_4
  have H5 : Hr x (b_cmp3 cs.length) Z EL1 1 (0 + cs.length) h1 [d] 6 #[.val (.ref a), .val (.int (0 : Int32)), .val (.int (Int32.ofNat cs.length)), .val (.ref d), .unset, .unset] [.int (0 : Int32), .ref a] := H4.iloadN d_cmp3_5
  have H6 : Hr x (b_cmp3 cs.length) Z EL1 1 (0 + cs.length) h1 [d] 7 #[.val (.ref a), .val (.int (0 : Int32)), .val (.int (Int32.ofNat cs.length)), .val (.ref d), .unset, .unset] [.ref d, .int (0 : Int32), .ref a] := H5.aloadN d_cmp3_6
  have H7 : Hr x (b_cmp3 cs.length) Z EL1 1 (0 + cs.length) h1 [d] 8 #[.val (.ref a), .val (.int (0 : Int32)), .val (.int (Int32.ofNat cs.length)), .val (.ref d), .unset, .unset] [.int (0 : Int32), .ref d, .int (0 : Int32), .ref a] := H6.iconst d_cmp3_7
  have H8 : Hr x (b_cmp3 cs.length) Z EL1 1 (0 + cs.length) h1 [d] 9 #[.val (.ref a), .val (.int (0 : Int32)), .val (.int (Int32.ofNat cs.length)), .val (.ref d), .unset, .unset] [.int (Int32.ofNat cs.length), .int (0 : Int32), .ref d, .int (0 : Int32), .ref a] := H7.iloadN d_cmp3_8
  obtain ⟨_, h2, _, ⟨rfl, rfl, Fd2⟩, K2, H9⟩ := H8.callS (argsL := [.ref a, .int (0 : Int32), .ref d, .int (0 : Int32), .int (Int32.ofNat cs.length)]) (rest := []) (Wr := 0) (ct_cmp5 hw x.l x.nar x.kn hnar h1 a d cs (Fa.ext E1) Fd (neN (by have := Fa.lt; omega)) hcs) (sub1 (List.mem_cons_self ..)) (w24 hw) (w25 hw) (w21 hw) (w26 hw) d_cmp3_9 pd_cmp5 rfl (hf := by first | (simp [b_cmp3, Bx.R]; done) | (simp [b_cmp3, Bx.R]; omega)) (hl := by first | (simp [b_cmp3, Bx.R]; done) | (simp [b_cmp3, Bx.R]; omega)) (hc := by first | (simp [b_cmp3, Bx.R]; done) | (simp [b_cmp3, Bx.R]; omega)) (hs := by first | (simp [b_cmp3, Bx.R]; done) | (simp [b_cmp3, Bx.R]; omega))
  have H9 : Hr x (b_cmp3 cs.length) Z EL1 1 (0 + cs.length + 0) h2 [d] 12 #[.val (.ref a), .val (.int (0 : Int32)), .val (.int (Int32.ofNat cs.length)), .val (.ref d), .unset, .unset] [.int (Int32.ofNat cs.length)] := H9
  have H10 : Hr x (b_cmp3 cs.length) Z EL1 1 (0 + cs.length + 0) h2 [d] 14 #[.val (.ref a), .val (.int (0 : Int32)), .val (.int (Int32.ofNat cs.length)), .val (.ref d), .val (.int (Int32.ofNat cs.length)), .unset] [] := H9.istore d_cmp3_12
  have H11 : Hr x (b_cmp3 cs.length) Z EL1 1 (0 + cs.length + 0) h2 [d] 16 #[.val (.ref a), .val (.int (0 : Int32)), .val (.int (Int32.ofNat cs.length)), .val (.ref d), .val (.int (Int32.ofNat cs.length)), .unset] [.int (Int32.ofNat cs.length)] := H10.iload d_cmp3_14
  have H12 : Hr x (b_cmp3 cs.length) Z EL1 1 (0 + cs.length + 0) h2 [d] 17 #[.val (.ref a), .val (.int (0 : Int32)), .val (.int (Int32.ofNat cs.length)), .val (.ref d), .val (.int (Int32.ofNat cs.length)), .unset] [.int (Int32.ofNat cs.length), .int (Int32.ofNat cs.length)] := H11.iloadN d_cmp3_16
  have H13 : Hr x (b_cmp3 cs.length) Z EL1 1 (0 + cs.length + 0) h2 [d] 57 #[.val (.ref a), .val (.int (0 : Int32)), .val (.int (Int32.ofNat cs.length)), .val (.ref d), .val (.int (Int32.ofNat cs.length)), .unset] [] := H12.icmpT d_cmp3_17 (XT.ii_eq_t rfl)
  have H14 : Hr x (b_cmp3 cs.length) Z EL1 1 (0 + cs.length + 0) h2 [d] 58 #[.val (.ref a), .val (.int (0 : Int32)), .val (.int (Int32.ofNat cs.length)), .val (.ref d), .val (.int (Int32.ofNat cs.length)), .unset] [.ref d] := H13.aloadN d_cmp3_57
  exact H14.finA d_cmp3_58 ⟨d, rfl, by omega, rfl, Fd2⟩ (sub1 (List.mem_cons_self ..)) (hK := by first | (simp [b_cmp3, Bx.R]; done) | (simp [b_cmp3, Bx.R]; omega)) (hS := by first | (simp [b_cmp3, Bx.R]; done) | (simp [b_cmp3, Bx.R]; omega))
def b_cfal : Bx := (({ frames := 0, cells := 0, slots := 0, locals := 0 } : Room), (⟨"java/lang/StringUTF16", "coderFromArrayLen", "([BI)B"⟩ : MethodName), jdk_52_method_15_code, 2, (Option.some Jvm.ClassFile.FieldType.byte))
theorem ef_cfal (d : Addr) (n : Nat) (mI : MethodId) : entryFrame mI #[.ref d, .int (Int32.ofNat n)] 2 = mkF mI 0 #[.val (.ref d), .val (.int (Int32.ofNat n))] [] := by first | (simp [entryFrame, mkF, argsToLocals, Value.category]; done) | rfl
theorem pd_cfal : parseMethodDescriptor "([BI)B" = some ⟨[(.array .byte), .int], some .byte⟩ := by decide +kernel
set_option maxRecDepth 65536 in
set_option maxHeartbeats 4000000 in
theorem ct_cfal {a0 : Array Value} {Z : State} (hw : ∀ d ∈ tables_1, d.before a0 Z = true) (l : Launch) (nar kn : Bool) (hnr : nar = false) (h0 : Heap) (d : Addr) (vs : List Value) (n : Nat) (hn : vs.length = n) (Fd : Ar Z h0 d .byte vs) :
    Ct l Z EL1 (⟨"java/lang/StringUTF16", "coderFromArrayLen", "([BI)B"⟩ : MethodName) jdk_52_method_15_code 2 (Option.some Jvm.ClassFile.FieldType.byte) ({ frames := 0, cells := 0, slots := 0, locals := 0 } : Room) #[.ref d, .int (Int32.ofNat n)] h0 [] nar kn (fun v h sn => v = some (.int 0) ∧ sn = [] ∧ h = h0) := by
  refine Ct.intro (plainFor_of_name pn_java_lang_StringUTF16) (ew hw) (ef_cfal d n) ?_
  intro x hl hn0 hkn hsf hh H0
  have hnar : x.nar = false := hn0.trans hnr
  have H0 : Hr x b_cfal Z EL1 0 0 h0 [] 0 #[.val (.ref d), .val (.int (Int32.ofNat n))] [] := H0
  have H1 : Hr x b_cfal Z EL1 0 0 h0 [] 1 #[.val (.ref d), .val (.int (Int32.ofNat n))] [.int (Int32.ofNat n)] := H0.iloadN d_cfal_0
  have H2 : Hr x b_cfal Z EL1 0 0 h0 [] 2 #[.val (.ref d), .val (.int (Int32.ofNat n))] [.ref d, .int (Int32.ofNat n)] := H1.aloadN d_cfal_1
  have H3 : Hr x b_cfal Z EL1 0 0 h0 [] 3 #[.val (.ref d), .val (.int (Int32.ofNat n))] [.int (Int32.ofNat n), .int (Int32.ofNat n)] := H2.arraylength Fd d_cfal_2 (hn := (by rw [hn]))
  have H4 : Hr x b_cfal Z EL1 0 0 h0 [] 4 #[.val (.ref d), .val (.int (Int32.ofNat n))] [.int (0 : Int32)] := H3.isub d_cfal_3 (hv := (by simp))
  have H5 : Hr x b_cfal Z EL1 0 0 h0 [] 6 #[.val (.ref d), .val (.int (Int32.ofNat n))] [.int (31 : Int32), .int (0 : Int32)] := H4.bipush d_cfal_4
  have H6 : Hr x b_cfal Z EL1 0 0 h0 [] 7 #[.val (.ref d), .val (.int (Int32.ofNat n))] [.int (0 : Int32)] := H5.iushr d_cfal_6 (hv := (by decide))
  have H7 : Hr x b_cfal Z EL1 0 0 h0 [] 8 #[.val (.ref d), .val (.int (Int32.ofNat n))] [.int (0 : Int32)] := H6.i2b d_cfal_7 (hv := (by decide))
  exact H7.finZ d_cfal_8 (t := .byte) (by first | rfl | decide) ⟨rfl, rfl, rfl⟩ sub0
def b_sini4 (n : Nat) : Bx := (({ frames := 2, cells := 4, slots := 8 + n, locals := 35 } : Room), (⟨"java/lang/String", "<init>", "([CIILjava/lang/Void;)V"⟩ : MethodName), jdk_42_method_149_code, 6, (Option.none : Option Jvm.ClassFile.FieldType))
theorem ef_sini4 (s a : Addr) (cs : List Int32) (mI : MethodId) : entryFrame mI #[.ref s, .ref a, .int (0 : Int32), .int (Int32.ofNat cs.length), .null] 6 = mkF mI 0 #[.val (.ref s), .val (.ref a), .val (.int (0 : Int32)), .val (.int (Int32.ofNat cs.length)), .val (.null), .unset] [] := by first | (simp [entryFrame, mkF, argsToLocals, Value.category]; done) | rfl
theorem pn_java_lang_String : plainName "java/lang/String" = true := by first | (simp [plainName, overriddenIn]; done) | decide +kernel
theorem pd_sini4 : parseMethodDescriptor "([CIILjava/lang/Void;)V" = some ⟨[(.array .char), .int, .int, (.object "java/lang/Void")], none⟩ := by decide +kernel
set_option maxRecDepth 65536 in
set_option maxHeartbeats 4000000 in
theorem ct_sini4 {a0 : Array Value} {Z : State} (hw : ∀ d ∈ tables_1, d.before a0 Z = true) (l : Launch) (nar kn : Bool) (hnr : nar = false) (h0 : Heap) (s a : Addr) (cs : List Int32) (Es : Exa Z h0 s "java/lang/String") (Fc : Fld Z h0 s "java/lang/String" "coder" "B" (.int 0)) (Fv : Fld Z h0 s "java/lang/String" "value" "[B" .null) (Fa : Ar Z h0 a .char (cs.map Value.int)) (hcap : cs.length ≤ 4000) (hcs : ∀ c ∈ cs, ¬ c < 0 ∧ ¬ 255 < c) (cz : Int32) (O : Sta Z Z.heap "java/lang/String" "COMPACT_STRINGS" "Z" (.int cz)) (hcz : ¬ cz = 0) (hpos : ¬ cs.length = 0) :
    Ct l Z EL1 (⟨"java/lang/String", "<init>", "([CIILjava/lang/Void;)V"⟩ : MethodName) jdk_42_method_149_code 6 (Option.none : Option Jvm.ClassFile.FieldType) ({ frames := 2, cells := 4, slots := 8 + cs.length, locals := 35 } : Room) #[.ref s, .ref a, .int (0 : Int32), .int (Int32.ofNat cs.length), .null] h0 [s] nar kn (fun v h sn => v = none ∧ sn = [] ∧ ∃ t, Str Z h s t (cs.map b8)) := by
  refine Ct.intro (plainFor_of_name pn_java_lang_String) (ew hw) (ef_sini4 s a cs) ?_
  intro x hl hn0 hkn hsf hh H0
  have hnar : x.nar = false := hn0.trans hnr
  have H0 : Hr x (b_sini4 cs.length) Z EL1 0 0 h0 [s] 0 #[.val (.ref s), .val (.ref a), .val (.int (0 : Int32)), .val (.int (Int32.ofNat cs.length)), .val (.null), .unset] [] := H0
  have H1 : Hr x (b_sini4 cs.length) Z EL1 0 0 h0 [s] 1 #[.val (.ref s), .val (.ref a), .val (.int (0 : Int32)), .val (.int (Int32.ofNat cs.length)), .val (.null), .unset] [.ref s] := H0.aloadN d_sini4_0
  have H2 : Hr x (b_sini4 cs.length) Z EL1 0 0 h0 [s] 4 #[.val (.ref s), .val (.ref a), .val (.int (0 : Int32)), .val (.int (Int32.ofNat cs.length)), .val (.null), .unset] [] := H1.initO (Wr := 0) (w15 hw) (w16 hw) (w17 hw) d_sini4_1 (hf := by first | (simp [b_sini4, Bx.R]; done) | (simp [b_sini4, Bx.R]; omega)) (hl := by first | (simp [b_sini4, Bx.R]; done) | (simp [b_sini4, Bx.R]; omega))
  have H3 : Hr x (b_sini4 cs.length) Z EL1 0 0 h0 [s] 5 #[.val (.ref s), .val (.ref a), .val (.int (0 : Int32)), .val (.int (Int32.ofNat cs.length)), .val (.null), .unset] [.int (Int32.ofNat cs.length)] := H2.iloadN d_sini4_4
  by_cases hz : cs.length = 0
  · exact absurd hz hpos
  · have hn0 : ¬ Int32.ofNat cs.length = 0 := fun q => hz (by have := congrArg Int32.toInt q; rw [toInt_of rfl (by omega)] at this; simpa using this)
    have H4 : Hr x (b_sini4 cs.length) Z EL1 0 0 h0 [s] 27 #[.val (.ref s), .val (.ref a), .val (.int (0 : Int32)), .val (.int (Int32.ofNat cs.length)), .val (.null), .unset] [] := H3.ifT d_sini4_5 (XT.i0_ne_t hn0)
    have H5 : Hr x (b_sini4 cs.length) Z EL1 0 0 h0 [s] 30 #[.val (.ref s), .val (.ref a), .val (.int (0 : Int32)), .val (.int (Int32.ofNat cs.length)), .val (.null), .unset] [.int cz] := H4.getS (w18 hw) (O.ext H4.old) d_sini4_27
    have H6 : Hr x (b_sini4 cs.length) Z EL1 0 0 h0 [s] 33 #[.val (.ref s), .val (.ref a), .val (.int (0 : Int32)), .val (.int (Int32.ofNat cs.length)), .val (.null), .unset] [] := H5.ifF d_sini4_30 (XT.i0_eq_f hcz)
    have H7 : Hr x (b_sini4 cs.length) Z EL1 0 0 h0 [s] 34 #[.val (.ref s), .val (.ref a), .val (.int (0 : Int32)), .val (.int (Int32.ofNat cs.length)), .val (.null), .unset] [.ref a] := H6.aloadN d_sini4_33
    have H8 : Hr x (b_sini4 cs.length) Z EL1 0 0 h0 [s] 35 #[.val (.ref s), .val (.ref a), .val (.int (0 : Int32)), .val (.int (Int32.ofNat cs.length)), .val (.null), .unset] [.int (0 : Int32), .ref a] := H7.iloadN d_sini4_34
    have H9 : Hr x (b_sini4 cs.length) Z EL1 0 0 h0 [s] 36 #[.val (.ref s), .val (.ref a), .val (.int (0 : Int32)), .val (.int (Int32.ofNat cs.length)), .val (.null), .unset] [.int (Int32.ofNat cs.length), .int (0 : Int32), .ref a] := H8.iloadN d_sini4_35
    obtain ⟨_, h1, _, ⟨t, rfl, ht, rfl, Ft⟩, K1, H10⟩ := H9.callS (argsL := [.ref a, .int (0 : Int32), .int (Int32.ofNat cs.length)]) (rest := []) (Wr := 0) (ct_cmp3 hw x.l x.nar x.kn hnar h0 a cs Fa hcap hcs) sub0 (w19 hw) (w20 hw) (w21 hw) (w22 hw) d_sini4_36 pd_cmp3 rfl (hf := by first | (simp [b_sini4, Bx.R]; done) | (simp [b_sini4, Bx.R]; omega)) (hl := by first | (simp [b_sini4, Bx.R]; done) | (simp [b_sini4, Bx.R]; omega)) (hc := by first | (simp [b_sini4, Bx.R]; done) | (simp [b_sini4, Bx.R]; omega)) (hs := by first | (simp [b_sini4, Bx.R]; done) | (simp [b_sini4, Bx.R]; omega))
    have H10 : Hr x (b_sini4 cs.length) Z EL1 1 (0 + cs.length) h1 [t, s] 39 #[.val (.ref s), .val (.ref a), .val (.int (0 : Int32)), .val (.int (Int32.ofNat cs.length)), .val (.null), .unset] [.ref t] := H10
    have H11 : Hr x (b_sini4 cs.length) Z EL1 1 (0 + cs.length) h1 [t, s] 41 #[.val (.ref s), .val (.ref a), .val (.int (0 : Int32)), .val (.int (Int32.ofNat cs.length)), .val (.null), .val (.ref t)] [] := H10.astore d_sini4_39
    have H12 : Hr x (b_sini4 cs.length) Z EL1 1 (0 + cs.length) h1 [t, s] 42 #[.val (.ref s), .val (.ref a), .val (.int (0 : Int32)), .val (.int (Int32.ofNat cs.length)), .val (.null), .val (.ref t)] [.ref s] := H11.aloadN d_sini4_41
    have H13 : Hr x (b_sini4 cs.length) Z EL1 1 (0 + cs.length) h1 [t, s] 44 #[.val (.ref s), .val (.ref a), .val (.int (0 : Int32)), .val (.int (Int32.ofNat cs.length)), .val (.null), .val (.ref t)] [.ref t, .ref s] := H12.aload d_sini4_42
    have H14 : Hr x (b_sini4 cs.length) Z EL1 1 (0 + cs.length) h1 [t, s] 45 #[.val (.ref s), .val (.ref a), .val (.int (0 : Int32)), .val (.int (Int32.ofNat cs.length)), .val (.null), .val (.ref t)] [.int (Int32.ofNat cs.length), .ref t, .ref s] := H13.iloadN d_sini4_44
    obtain ⟨_, h2, _, ⟨rfl, rfl, e2⟩, K2, H15⟩ := H14.callS (argsL := [.ref t, .int (Int32.ofNat cs.length)]) (rest := [.ref s]) (Wr := 1) (ct_cfal hw x.l x.nar x.kn hnar h1 t (cs.map fun c => Value.int (b8 c)) cs.length (by simp) Ft) sub0 (w27 hw) (w28 hw) (w21 hw) (w29 hw) d_sini4_45 pd_cfal rfl (hf := by first | (simp [b_sini4, Bx.R]; done) | (simp [b_sini4, Bx.R]; omega)) (hl := by first | (simp [b_sini4, Bx.R]; done) | (simp [b_sini4, Bx.R]; omega)) (hc := by first | (simp [b_sini4, Bx.R]; done) | (simp [b_sini4, Bx.R]; omega)) (hs := by first | (simp [b_sini4, Bx.R]; done) | (simp [b_sini4, Bx.R]; omega))
    rw [e2] at H15
    have H15 : Hr x (b_sini4 cs.length) Z EL1 1 (0 + cs.length + 0) h1 [t, s] 48 #[.val (.ref s), .val (.ref a), .val (.int (0 : Int32)), .val (.int (Int32.ofNat cs.length)), .val (.null), .val (.ref t)] [.int (0 : Int32), .ref s] := H15
    have hlt := exa_lt Es
    have hst : @Ne Nat s t := by omega
    have slne := slot_ne (a0 := a0) (C := "java/lang/String") (n := "value") (n' := "coder") (Or.inr (w33 hw)) (Or.inr (w31 hw)) (by decide) (t := .array .byte) (t' := .byte) (by decide) (by decide)
    obtain ⟨h3, W3, H16⟩ := H15.putF (by simp) (w30 hw) (Fc.keep K1 nin0) (Es.keep K1) (Or.inr ⟨(w31 hw), rfl, rfl⟩) (w6 hw) d_sini4_48 (ty := .byte)
    have H16 : Hr x (b_sini4 cs.length) Z EL1 1 (0 + cs.length + 0) h3 [t, s] 51 #[.val (.ref s), .val (.ref a), .val (.int (0 : Int32)), .val (.int (Int32.ofNat cs.length)), .val (.null), .val (.ref t)] [] := H16
    have H17 : Hr x (b_sini4 cs.length) Z EL1 1 (0 + cs.length + 0) h3 [t, s] 52 #[.val (.ref s), .val (.ref a), .val (.int (0 : Int32)), .val (.int (Int32.ofNat cs.length)), .val (.null), .val (.ref t)] [.ref s] := H16.aloadN d_sini4_51
    have H18 : Hr x (b_sini4 cs.length) Z EL1 1 (0 + cs.length + 0) h3 [t, s] 54 #[.val (.ref s), .val (.ref a), .val (.int (0 : Int32)), .val (.int (Int32.ofNat cs.length)), .val (.null), .val (.ref t)] [.ref t, .ref s] := H17.aload d_sini4_52
    obtain ⟨h4, W4, H19⟩ := H18.putF (by simp) (w32 hw) ((Fv.keep K1 nin0).other W3 (Or.inr slne)) ((Es.keep K1).wr W3) (Or.inr ⟨(w33 hw), rfl, rfl⟩) (w6 hw) d_sini4_54 (ty := (.array .byte))
    have H19 : Hr x (b_sini4 cs.length) Z EL1 1 (0 + cs.length + 0) h4 [t, s] 57 #[.val (.ref s), .val (.ref a), .val (.int (0 : Int32)), .val (.int (Int32.ofNat cs.length)), .val (.null), .val (.ref t)] [] := H19
    refine H19.finN d_sini4_57 rfl (by first | (simp [b_sini4, Bx.R]; done) | (simp [b_sini4, Bx.R]; omega)) (by first | (simp [b_sini4, Bx.R]; done) | (simp [b_sini4, Bx.R]; omega)) sub0 ⟨rfl, rfl, t, ((Es.keep K1).wr W3).wr W4, (Fld.same W3 (Fc.keep K1 nin0)).other W4 (Or.inr (Ne.symm slne)), Fld.same W4 ((Fv.keep K1 nin0).other W3 (Or.inr slne)), ?_⟩
    have := (Ft.other W3 (Ne.symm hst)).other W4 (Ne.symm hst); simpa [List.map_map, Function.comp_def] using this
def b_sini1 (n : Nat) : Bx := (({ frames := 3, cells := 4, slots := 8 + n, locals := 52 } : Room), (⟨"java/lang/String", "<init>", "([C)V"⟩ : MethodName), jdk_42_method_3_code, 2, (Option.none : Option Jvm.ClassFile.FieldType))
theorem ef_sini1 (s a : Addr) (mI : MethodId) : entryFrame mI #[.ref s, .ref a] 2 = mkF mI 0 #[.val (.ref s), .val (.ref a)] [] := by first | (simp [entryFrame, mkF, argsToLocals, Value.category]; done) | rfl
theorem pd_sini1 : parseMethodDescriptor "([C)V" = some ⟨[(.array .char)], none⟩ := by decide +kernel
set_option maxRecDepth 65536 in
set_option maxHeartbeats 4000000 in
theorem ct_sini1 {a0 : Array Value} {Z : State} (hw : ∀ d ∈ tables_1, d.before a0 Z = true) (l : Launch) (nar kn : Bool) (hnr : nar = false) (h0 : Heap) (s a : Addr) (cs : List Int32) (Es : Exa Z h0 s "java/lang/String") (Fc : Fld Z h0 s "java/lang/String" "coder" "B" (.int 0)) (Fv : Fld Z h0 s "java/lang/String" "value" "[B" .null) (Fa : Ar Z h0 a .char (cs.map Value.int)) (hcap : cs.length ≤ 4000) (hcs : ∀ c ∈ cs, ¬ c < 0 ∧ ¬ 255 < c) (cz : Int32) (O : Sta Z Z.heap "java/lang/String" "COMPACT_STRINGS" "Z" (.int cz)) (hcz : ¬ cz = 0) (hpos : ¬ cs.length = 0) :
    Ct l Z EL1 (⟨"java/lang/String", "<init>", "([C)V"⟩ : MethodName) jdk_42_method_3_code 2 (Option.none : Option Jvm.ClassFile.FieldType) ({ frames := 3, cells := 4, slots := 8 + cs.length, locals := 52 } : Room) #[.ref s, .ref a] h0 [s] nar kn (fun v h sn => v = none ∧ sn = [] ∧ ∃ t, Str Z h s t (cs.map b8)) := by
  refine Ct.intro (plainFor_of_name pn_java_lang_String) (ew hw) (ef_sini1 s a) ?_
  intro x hl hn0 hkn hsf hh H0
  have hnar : x.nar = false := hn0.trans hnr
  have H0 : Hr x (b_sini1 cs.length) Z EL1 0 0 h0 [s] 0 #[.val (.ref s), .val (.ref a)] [] := H0
  have H1 : Hr x (b_sini1 cs.length) Z EL1 0 0 h0 [s] 1 #[.val (.ref s), .val (.ref a)] [.ref s] := H0.aloadN d_sini1_0
  have H2 : Hr x (b_sini1 cs.length) Z EL1 0 0 h0 [s] 2 #[.val (.ref s), .val (.ref a)] [.ref a, .ref s] := H1.aloadN d_sini1_1
  have H3 : Hr x (b_sini1 cs.length) Z EL1 0 0 h0 [s] 3 #[.val (.ref s), .val (.ref a)] [.int (0 : Int32), .ref a, .ref s] := H2.iconst d_sini1_2
  have H4 : Hr x (b_sini1 cs.length) Z EL1 0 0 h0 [s] 4 #[.val (.ref s), .val (.ref a)] [.ref a, .int (0 : Int32), .ref a, .ref s] := H3.aloadN d_sini1_3
  have H5 : Hr x (b_sini1 cs.length) Z EL1 0 0 h0 [s] 5 #[.val (.ref s), .val (.ref a)] [.int (Int32.ofNat cs.length), .int (0 : Int32), .ref a, .ref s] := H4.arraylength Fa d_sini1_4 (hn := (by simp))
  have H6 : Hr x (b_sini1 cs.length) Z EL1 0 0 h0 [s] 6 #[.val (.ref s), .val (.ref a)] [.null, .int (Int32.ofNat cs.length), .int (0 : Int32), .ref a, .ref s] := H5.aconstNull d_sini1_5
  obtain ⟨_, h1, _, ⟨rfl, rfl, t, Fs⟩, K1, H7⟩ := H6.callI (argsL := [.ref a, .int (0 : Int32), .int (Int32.ofNat cs.length), .null]) (rest := []) (Wr := 0) (a := s) (ct_sini4 hw x.l x.nar x.kn hnar h0 s a cs Es Fc Fv Fa hcap hcs cz O hcz hpos) (sub1 (List.mem_singleton.mpr rfl)) (w11 hw) (w12 hw) (w7 hw) (w14 hw) d_sini1_6 pd_sini4 rfl (hf := by first | (simp [b_sini1, Bx.R]; done) | (simp [b_sini1, Bx.R]; omega)) (hl := by first | (simp [b_sini1, Bx.R]; done) | (simp [b_sini1, Bx.R]; omega)) (hc := by first | (simp [b_sini1, Bx.R]; done) | (simp [b_sini1, Bx.R]; omega)) (hs := by first | (simp [b_sini1, Bx.R]; done) | (simp [b_sini1, Bx.R]; omega))
  have H7 : Hr x (b_sini1 cs.length) Z EL1 4 (0 + (8 + cs.length)) h1 [s] 9 #[.val (.ref s), .val (.ref a)] [] := H7
  exact H7.finN d_sini1_9 rfl (by first | (simp [b_sini1, Bx.R]; done) | (simp [b_sini1, Bx.R]; omega)) (by first | (simp [b_sini1, Bx.R]; done) | (simp [b_sini1, Bx.R]; omega)) sub0 ⟨rfl, rfl, t, Fs⟩
theorem Ar.uniq {Z : State} {h : Heap} {a : Addr} {ty ty' : FieldType} {vs ws : List Value} (A : Ar Z h a ty vs) (B : Ar Z h a ty' ws) : vs = ws := by
  obtain ⟨c, A1, A2, -⟩ := A
  obtain ⟨c', B1, B2, -⟩ := B
  cases A1.1.symm.trans B1.1
  exact A2.symm.trans B2
theorem int_inj : ∀ {as bs : List Int32}, as.map Value.int = bs.map Value.int → as = bs := fun {as bs} q => by
  have : Function.Injective Value.int := fun a b h => Value.int.inj h
  exact (List.map_inj_right (fun a b h => this h)).mp q
theorem Str.uniq {Z : State} {h : Heap} {a t u : Addr} {bs ds : List Int32} (F : Str Z h a t bs) (G : Str Z h a u ds) : bs = ds := by
  have e : t = u := Classical.byContradiction fun q => (F.2.2.1.ne G.2.2.1 (fun z => q (Value.ref.inj z))) rfl
  subst e
  exact int_inj (F.2.2.2.uniq G.2.2.2)
theorem ofNat_inj {m n : Nat} (hm : m < 2147483648) (hn : n < 2147483648) (q : Int32.ofNat m = Int32.ofNat n) : m = n := by
  have := congrArg Int32.toInt q
  rw [toInt_of rfl (by omega), toInt_of rfl (by omega)] at this
  omega
theorem take_next {as bs : List Int32} {i : Nat} (h1 : i < as.length) (h2 : i < bs.length) (q : as.take i = bs.take i) (e : as[i] = bs[i]) : as.take (i + 1) = bs.take (i + 1) := by
  rw [List.take_add_one, List.take_add_one, q, List.getElem?_eq_getElem h1, List.getElem?_eq_getElem h2, e]
def b_leq : Bx := (({ frames := 0, cells := 0, slots := 0, locals := 0 } : Room), (⟨"java/lang/StringLatin1", "equals", "([B[B)Z"⟩ : MethodName), jdk_43_method_13_code, 3, (Option.some Jvm.ClassFile.FieldType.boolean))
theorem ef_leq (t u : Addr) (mI : MethodId) : entryFrame mI #[.ref t, .ref u] 3 = mkF mI 0 #[.val (.ref t), .val (.ref u), .unset] [] := by first | (simp [entryFrame, mkF, argsToLocals, Value.category]; done) | rfl
theorem pn_java_lang_StringLatin1 : plainName "java/lang/StringLatin1" = true := by first | (simp [plainName, overriddenIn]; done) | decide +kernel
theorem pd_leq : parseMethodDescriptor "([B[B)Z" = some ⟨[(.array .byte), (.array .byte)], some .boolean⟩ := by decide +kernel
set_option maxRecDepth 65536 in
set_option maxHeartbeats 4000000 in
theorem ct_leq {a0 : Array Value} {Z : State} (hw : ∀ d ∈ tables_1, d.before a0 Z = true) (l : Launch) (nar kn : Bool) (hnr : nar = false) (h0 : Heap) (t u : Addr) (bs ds : List Int32) (Ft : Ar Z h0 t .byte (bs.map Value.int)) (Fu : Ar Z h0 u .byte (ds.map Value.int)) :
    Ct l Z EL1 (⟨"java/lang/StringLatin1", "equals", "([B[B)Z"⟩ : MethodName) jdk_43_method_13_code 3 (Option.some Jvm.ClassFile.FieldType.boolean) ({ frames := 0, cells := 0, slots := 0, locals := 0 } : Room) #[.ref t, .ref u] h0 [] nar kn (fun v h sn => v = some (.int (if bs = ds then 1 else 0)) ∧ sn = [] ∧ h = h0) := by
  refine Ct.intro (plainFor_of_name pn_java_lang_StringLatin1) (ew hw) (ef_leq t u) ?_
  intro x hl hn0 hkn hsf hh H0
  have hnar : x.nar = false := hn0.trans hnr
  have H0 : Hr x b_leq Z EL1 0 0 h0 [] 0 #[.val (.ref t), .val (.ref u), .unset] [] := H0
  have hb : bs.length < 2147483648 := by simpa using Ft.len
  have hd : ds.length < 2147483648 := by simpa using Fu.len
  have H1 : Hr x b_leq Z EL1 0 0 h0 [] 1 #[.val (.ref t), .val (.ref u), .unset] [.ref t] := H0.aloadN d_leq_0
  have H2 : Hr x b_leq Z EL1 0 0 h0 [] 2 #[.val (.ref t), .val (.ref u), .unset] [.int (Int32.ofNat bs.length)] := H1.arraylength Ft d_leq_1 (hn := (by simp))
  have H3 : Hr x b_leq Z EL1 0 0 h0 [] 3 #[.val (.ref t), .val (.ref u), .unset] [.ref u, .int (Int32.ofNat bs.length)] := H2.aloadN d_leq_2
  have H4 : Hr x b_leq Z EL1 0 0 h0 [] 4 #[.val (.ref t), .val (.ref u), .unset] [.int (Int32.ofNat ds.length), .int (Int32.ofNat bs.length)] := H3.arraylength Fu d_leq_3 (hn := (by simp))
  by_cases hl2 : bs.length = ds.length
  · have hlI : Int32.ofNat bs.length = Int32.ofNat ds.length := congrArg _ hl2
    have H5 : Hr x b_leq Z EL1 0 0 h0 [] 7 #[.val (.ref t), .val (.ref u), .unset] [] := H4.icmpF d_leq_4 (XT.ii_ne_f hlI)
    have H6 : Hr x b_leq Z EL1 0 0 h0 [] 8 #[.val (.ref t), .val (.ref u), .unset] [.int (0 : Int32)] := H5.iconst d_leq_7
    have H7 : Hr x b_leq Z EL1 0 0 h0 [] 9 #[.val (.ref t), .val (.ref u), .val (.int (0 : Int32))] [] := H6.istoreN d_leq_8
    have loop : ∀ (k i : Nat), i + k = bs.length → bs.take i = ds.take i → Hr x b_leq Z EL1 0 0 h0 [] 9 #[.val (.ref t), .val (.ref u), .val (.int (Int32.ofNat i))] [] → Ends x b_leq Z EL1 (fun v h sn => v = some (.int (if bs = ds then 1 else 0)) ∧ sn = [] ∧ h = h0) := by
      intro k
      induction k with
      | zero =>
        intro i hi hq H
        obtain rfl : i = bs.length := by omega
        have H8 : Hr x b_leq Z EL1 0 0 h0 [] 10 #[.val (.ref t), .val (.ref u), .val (.int (Int32.ofNat bs.length))] [.int (Int32.ofNat bs.length)] := H.iloadN d_leq_9
        have H9 : Hr x b_leq Z EL1 0 0 h0 [] 11 #[.val (.ref t), .val (.ref u), .val (.int (Int32.ofNat bs.length))] [.ref t, .int (Int32.ofNat bs.length)] := H8.aloadN d_leq_10
        have H10 : Hr x b_leq Z EL1 0 0 h0 [] 12 #[.val (.ref t), .val (.ref u), .val (.int (Int32.ofNat bs.length))] [.int (Int32.ofNat bs.length), .int (Int32.ofNat bs.length)] := H9.arraylength Ft d_leq_11 (hn := (by simp))
        have H11 : Hr x b_leq Z EL1 0 0 h0 [] 32 #[.val (.ref t), .val (.ref u), .val (.int (Int32.ofNat bs.length))] [] := H10.icmpT d_leq_12 (XT.ii_ge_t (by simp))
        have H12 : Hr x b_leq Z EL1 0 0 h0 [] 33 #[.val (.ref t), .val (.ref u), .val (.int (Int32.ofNat bs.length))] [.int (1 : Int32)] := H11.iconst d_leq_32
        have e : bs = ds := by rw [List.take_length] at hq; rw [hl2, List.take_length] at hq; exact hq
        exact H12.finZ d_leq_33 (t := .boolean) (by first | rfl | decide) ⟨by rw [if_pos e], rfl, rfl⟩ sub0
      | succ k ih =>
        intro i hi hq H
        have hi1 : i < bs.length := by omega
        have hi2 : i < ds.length := by omega
        have hlt : Int32.ofNat i < Int32.ofNat bs.length := by rw [Int32.lt_iff_toInt_lt, toInt_of rfl (by omega), toInt_of rfl (by omega)]; omega
        have H8 : Hr x b_leq Z EL1 0 0 h0 [] 10 #[.val (.ref t), .val (.ref u), .val (.int (Int32.ofNat i))] [.int (Int32.ofNat i)] := H.iloadN d_leq_9
        have H9 : Hr x b_leq Z EL1 0 0 h0 [] 11 #[.val (.ref t), .val (.ref u), .val (.int (Int32.ofNat i))] [.ref t, .int (Int32.ofNat i)] := H8.aloadN d_leq_10
        have H10 : Hr x b_leq Z EL1 0 0 h0 [] 12 #[.val (.ref t), .val (.ref u), .val (.int (Int32.ofNat i))] [.int (Int32.ofNat bs.length), .int (Int32.ofNat i)] := H9.arraylength Ft d_leq_11 (hn := (by simp))
        have H11 : Hr x b_leq Z EL1 0 0 h0 [] 15 #[.val (.ref t), .val (.ref u), .val (.int (Int32.ofNat i))] [] := H10.icmpF d_leq_12 (XT.ii_ge_f hlt)
        have H12 : Hr x b_leq Z EL1 0 0 h0 [] 16 #[.val (.ref t), .val (.ref u), .val (.int (Int32.ofNat i))] [.ref t] := H11.aloadN d_leq_15
        have H13 : Hr x b_leq Z EL1 0 0 h0 [] 17 #[.val (.ref t), .val (.ref u), .val (.int (Int32.ofNat i))] [.int (Int32.ofNat i), .ref t] := H12.iloadN d_leq_16
        have H14 : Hr x b_leq Z EL1 0 0 h0 [] 18 #[.val (.ref t), .val (.ref u), .val (.int (Int32.ofNat i))] [.int (bs[i])] := H13.baload Ft d_leq_17 (i := i) rfl (by simp [hi1])
        have H15 : Hr x b_leq Z EL1 0 0 h0 [] 19 #[.val (.ref t), .val (.ref u), .val (.int (Int32.ofNat i))] [.ref u, .int (bs[i])] := H14.aloadN d_leq_18
        have H16 : Hr x b_leq Z EL1 0 0 h0 [] 20 #[.val (.ref t), .val (.ref u), .val (.int (Int32.ofNat i))] [.int (Int32.ofNat i), .ref u, .int (bs[i])] := H15.iloadN d_leq_19
        have H17 : Hr x b_leq Z EL1 0 0 h0 [] 21 #[.val (.ref t), .val (.ref u), .val (.int (Int32.ofNat i))] [.int (ds[i]), .int (bs[i])] := H16.baload Fu d_leq_20 (i := i) rfl (by simp [hi2])
        by_cases he : bs[i] = ds[i]
        · have hinc := (inc_ofNat i).symm
          have H18 : Hr x b_leq Z EL1 0 0 h0 [] 26 #[.val (.ref t), .val (.ref u), .val (.int (Int32.ofNat i))] [] := H17.icmpT d_leq_21 (XT.ii_eq_t he)
          have H19 : Hr x b_leq Z EL1 0 0 h0 [] 29 #[.val (.ref t), .val (.ref u), .val (.int (Int32.ofNat (i + 1)))] [] := H18.iinc d_leq_26 (v := (Int32.ofNat (i + 1))) (hv := hinc)
          have H20 : Hr x b_leq Z EL1 0 0 h0 [] 9 #[.val (.ref t), .val (.ref u), .val (.int (Int32.ofNat (i + 1)))] [] := H19.goto d_leq_29
          exact ih (i + 1) (by omega) (take_next hi1 hi2 hq he) H20
        · have hne : ¬ bs = ds := fun q => he (by subst q; rfl)
          have H21 : Hr x b_leq Z EL1 0 0 h0 [] 24 #[.val (.ref t), .val (.ref u), .val (.int (Int32.ofNat i))] [] := H17.icmpF d_leq_21 (XT.ii_eq_f he)
          have H22 : Hr x b_leq Z EL1 0 0 h0 [] 25 #[.val (.ref t), .val (.ref u), .val (.int (Int32.ofNat i))] [.int (0 : Int32)] := H21.iconst d_leq_24
          exact H22.finZ d_leq_25 (t := .boolean) (by first | rfl | decide) ⟨by rw [if_neg hne], rfl, rfl⟩ sub0
    exact loop bs.length 0 (by omega) rfl H7
  · have hne : ¬ bs = ds := fun q => hl2 (congrArg _ q)
    have H201 : Hr x b_leq Z EL1 0 0 h0 [] 34 #[.val (.ref t), .val (.ref u), .unset] [] := H4.icmpT d_leq_4 (XT.ii_ne_t fun q => hl2 (ofNat_inj hb hd q))
    have H202 : Hr x b_leq Z EL1 0 0 h0 [] 35 #[.val (.ref t), .val (.ref u), .unset] [.int (0 : Int32)] := H201.iconst d_leq_34
    exact H202.finZ d_leq_35 (t := .boolean) (by first | rfl | decide) ⟨by rw [if_neg hne], rfl, rfl⟩ sub0
def b_seq : Bx := (({ frames := 1, cells := 0, slots := 0, locals := 14 } : Room), (⟨"java/lang/String", "equals", "(Ljava/lang/Object;)Z"⟩ : MethodName), jdk_42_method_66_code, 3, (Option.some Jvm.ClassFile.FieldType.boolean))
theorem ef_seq (a c : Addr) (mI : MethodId) : entryFrame mI #[.ref a, .ref c] 3 = mkF mI 0 #[.val (.ref a), .val (.ref c), .unset] [] := by first | (simp [entryFrame, mkF, argsToLocals, Value.category]; done) | rfl
theorem pd_seq : parseMethodDescriptor "(Ljava/lang/Object;)Z" = some ⟨[(.object "java/lang/Object")], some .boolean⟩ := by decide +kernel
set_option maxRecDepth 65536 in
set_option maxHeartbeats 4000000 in
theorem ct_seq {a0 : Array Value} {Z : State} (hw : ∀ d ∈ tables_1, d.before a0 Z = true) (l : Launch) (nar kn : Bool) (hnr : nar = false) (h0 : Heap) (a t c u : Addr) (bs ds : List Int32) (Fa : Str Z h0 a t bs) (Fc : Str Z h0 c u ds) (cz : Int32) (O : Sta Z Z.heap "java/lang/String" "COMPACT_STRINGS" "Z" (.int cz)) (hcz : ¬ cz = 0) :
    Ct l Z EL1 (⟨"java/lang/String", "equals", "(Ljava/lang/Object;)Z"⟩ : MethodName) jdk_42_method_66_code 3 (Option.some Jvm.ClassFile.FieldType.boolean) ({ frames := 1, cells := 0, slots := 0, locals := 14 } : Room) #[.ref a, .ref c] h0 [] nar kn (fun v h sn => v = some (.int (if bs = ds then 1 else 0)) ∧ sn = [] ∧ h = h0) := by
  refine Ct.intro (plainFor_of_name pn_java_lang_String) (ew hw) (ef_seq a c) ?_
  intro x hl hn0 hkn hsf hh H0
  have hnar : x.nar = false := hn0.trans hnr
  have H0 : Hr x b_seq Z EL1 0 0 h0 [] 0 #[.val (.ref a), .val (.ref c), .unset] [] := H0
  have H1 : Hr x b_seq Z EL1 0 0 h0 [] 1 #[.val (.ref a), .val (.ref c), .unset] [.ref a] := H0.aloadN d_seq_0
  have H2 : Hr x b_seq Z EL1 0 0 h0 [] 2 #[.val (.ref a), .val (.ref c), .unset] [.ref c, .ref a] := H1.aloadN d_seq_1
  by_cases hac : a = c
  · have e : bs = ds := by subst hac; exact Fa.uniq Fc
    have H3 : Hr x b_seq Z EL1 0 0 h0 [] 5 #[.val (.ref a), .val (.ref c), .unset] [] := H2.acmpF d_seq_2 (by simp [XT.acmp, hac])
    have H4 : Hr x b_seq Z EL1 0 0 h0 [] 6 #[.val (.ref a), .val (.ref c), .unset] [.int (1 : Int32)] := H3.iconst d_seq_5
    exact H4.finZ d_seq_6 (t := .boolean) (by first | rfl | decide) ⟨by rw [if_pos e], rfl, rfl⟩ sub0
  · have hne : XT.acmp .ne (.ref a) (.ref c) = true := by simp [XT.acmp, hac]
    have H5 : Hr x b_seq Z EL1 0 0 h0 [] 7 #[.val (.ref a), .val (.ref c), .unset] [] := H2.acmpT d_seq_2 hne
    have H6 : Hr x b_seq Z EL1 0 0 h0 [] 8 #[.val (.ref a), .val (.ref c), .unset] [.ref c] := H5.aloadN d_seq_7
    have H7 : Hr x b_seq Z EL1 0 0 h0 [] 11 #[.val (.ref a), .val (.ref c), .unset] [.int (1 : Int32)] := H6.inst (w241 hw) (Ins.self Fc.1) d_seq_8
    have H8 : Hr x b_seq Z EL1 0 0 h0 [] 14 #[.val (.ref a), .val (.ref c), .unset] [] := H7.ifF d_seq_11 (XT.i0_eq_f (by decide))
    have H9 : Hr x b_seq Z EL1 0 0 h0 [] 15 #[.val (.ref a), .val (.ref c), .unset] [.ref c] := H8.aloadN d_seq_14
    have H10 : Hr x b_seq Z EL1 0 0 h0 [] 18 #[.val (.ref a), .val (.ref c), .unset] [.ref c] := H9.cast (w241 hw) (Ins.self Fc.1) d_seq_15
    have H11 : Hr x b_seq Z EL1 0 0 h0 [] 19 #[.val (.ref a), .val (.ref c), .val (.ref c)] [] := H10.astoreN d_seq_18
    have H12 : Hr x b_seq Z EL1 0 0 h0 [] 22 #[.val (.ref a), .val (.ref c), .val (.ref c)] [.int cz] := H11.getS (w18 hw) (O.ext H11.old) d_seq_19
    have H13 : Hr x b_seq Z EL1 0 0 h0 [] 25 #[.val (.ref a), .val (.ref c), .val (.ref c)] [] := H12.ifF d_seq_22 (XT.i0_eq_f hcz)
    have H14 : Hr x b_seq Z EL1 0 0 h0 [] 26 #[.val (.ref a), .val (.ref c), .val (.ref c)] [.ref a] := H13.aloadN d_seq_25
    have H15 : Hr x b_seq Z EL1 0 0 h0 [] 29 #[.val (.ref a), .val (.ref c), .val (.ref c)] [.int (0 : Int32)] := H14.getF (w30 hw) Fa.2.1 d_seq_26
    have H16 : Hr x b_seq Z EL1 0 0 h0 [] 30 #[.val (.ref a), .val (.ref c), .val (.ref c)] [.ref c, .int (0 : Int32)] := H15.aloadN d_seq_29
    have H17 : Hr x b_seq Z EL1 0 0 h0 [] 33 #[.val (.ref a), .val (.ref c), .val (.ref c)] [.int (0 : Int32), .int (0 : Int32)] := H16.getF (w30 hw) Fc.2.1 d_seq_30
    have H18 : Hr x b_seq Z EL1 0 0 h0 [] 36 #[.val (.ref a), .val (.ref c), .val (.ref c)] [] := H17.icmpF d_seq_33 (XT.ii_ne_f rfl)
    have H19 : Hr x b_seq Z EL1 0 0 h0 [] 37 #[.val (.ref a), .val (.ref c), .val (.ref c)] [.ref a] := H18.aloadN d_seq_36
    have H20 : Hr x b_seq Z EL1 0 0 h0 [] 40 #[.val (.ref a), .val (.ref c), .val (.ref c)] [.ref t] := H19.getF (w32 hw) Fa.2.2.1 d_seq_37
    have H21 : Hr x b_seq Z EL1 0 0 h0 [] 41 #[.val (.ref a), .val (.ref c), .val (.ref c)] [.ref c, .ref t] := H20.aloadN d_seq_40
    have H22 : Hr x b_seq Z EL1 0 0 h0 [] 44 #[.val (.ref a), .val (.ref c), .val (.ref c)] [.ref u, .ref t] := H21.getF (w32 hw) Fc.2.2.1 d_seq_41
    obtain ⟨_, h1, _, ⟨rfl, rfl, e1⟩, K1, H23⟩ := H22.callS (argsL := [.ref t, .ref u]) (rest := []) (Wr := 0) (ct_leq hw x.l x.nar x.kn hnar h0 t u bs ds Fa.2.2.2 Fc.2.2.2) sub0 (w242 hw) (w243 hw) (w77 hw) (w244 hw) d_seq_44 pd_leq rfl (hf := by first | decide | (simp [b_seq, Bx.R]; done) | (simp [b_seq, Bx.R]; omega)) (hl := by first | decide | (simp [b_seq, Bx.R]; done) | (simp [b_seq, Bx.R]; omega)) (hc := by first | decide | (simp [b_seq, Bx.R]; done) | (simp [b_seq, Bx.R]; omega)) (hs := by first | decide | (simp [b_seq, Bx.R]; done) | (simp [b_seq, Bx.R]; omega))
    rw [e1] at H23
    have H23 : Hr x b_seq Z EL1 0 0 h0 [] 47 #[.val (.ref a), .val (.ref c), .val (.ref c)] [.int (if bs = ds then 1 else 0)] := H23
    by_cases he : bs = ds
    · have e2 : (if bs = ds then (1 : Int32) else 0) = 1 := if_pos he
      have H24 : Hr x b_seq Z EL1 0 0 h0 [] 50 #[.val (.ref a), .val (.ref c), .val (.ref c)] [] := H23.ifF d_seq_47 (XT.i0_eq_f (by rw [e2]; decide))
      have H25 : Hr x b_seq Z EL1 0 0 h0 [] 51 #[.val (.ref a), .val (.ref c), .val (.ref c)] [.int (1 : Int32)] := H24.iconst d_seq_50
      have H26 : Hr x b_seq Z EL1 0 0 h0 [] 55 #[.val (.ref a), .val (.ref c), .val (.ref c)] [.int (1 : Int32)] := H25.goto d_seq_51
      exact H26.finZ d_seq_55 (t := .boolean) (by first | rfl | decide) ⟨by rw [e2], rfl, rfl⟩ sub0
    · have e2 : (if bs = ds then (1 : Int32) else 0) = 0 := if_neg he
      have H27 : Hr x b_seq Z EL1 0 0 h0 [] 54 #[.val (.ref a), .val (.ref c), .val (.ref c)] [] := H23.ifT d_seq_47 (XT.i0_eq_t e2)
      have H28 : Hr x b_seq Z EL1 0 0 h0 [] 55 #[.val (.ref a), .val (.ref c), .val (.ref c)] [.int (0 : Int32)] := H27.iconst d_seq_54
      exact H28.finZ d_seq_55 (t := .boolean) (by first | rfl | decide) ⟨by rw [e2], rfl, rfl⟩ sub0
def b_scod : Bx := (({ frames := 0, cells := 0, slots := 0, locals := 0 } : Room), (⟨"java/lang/String", "coder", "()B"⟩ : MethodName), jdk_42_method_152_code, 1, (Option.some Jvm.ClassFile.FieldType.byte))
theorem ef_scod (a : Addr) (mI : MethodId) : entryFrame mI #[.ref a] 1 = mkF mI 0 #[.val (.ref a)] [] := by first | (simp [entryFrame, mkF, argsToLocals, Value.category]; done) | rfl
theorem pd_scod : parseMethodDescriptor "()B" = some ⟨[], some .byte⟩ := by decide +kernel
set_option maxRecDepth 65536 in
set_option maxHeartbeats 4000000 in
theorem ct_scod {a0 : Array Value} {Z : State} (hw : ∀ d ∈ tables_1, d.before a0 Z = true) (l : Launch) (nar kn : Bool) (hnr : nar = false) (h0 : Heap) (a t : Addr) (bs : List Int32) (Fa : Str Z h0 a t bs) (cz : Int32) (O : Sta Z Z.heap "java/lang/String" "COMPACT_STRINGS" "Z" (.int cz)) (hcz : ¬ cz = 0) :
    Ct l Z EL1 (⟨"java/lang/String", "coder", "()B"⟩ : MethodName) jdk_42_method_152_code 1 (Option.some Jvm.ClassFile.FieldType.byte) ({ frames := 0, cells := 0, slots := 0, locals := 0 } : Room) #[.ref a] h0 [] nar kn (fun v h sn => v = some (.int 0) ∧ sn = [] ∧ h = h0) := by
  refine Ct.intro (plainFor_of_name pn_java_lang_String) (ew hw) (ef_scod a) ?_
  intro x hl hn0 hkn hsf hh H0
  have hnar : x.nar = false := hn0.trans hnr
  have H0 : Hr x b_scod Z EL1 0 0 h0 [] 0 #[.val (.ref a)] [] := H0
  have H1 : Hr x b_scod Z EL1 0 0 h0 [] 3 #[.val (.ref a)] [.int cz] := H0.getS (w18 hw) (O.ext H0.old) d_scod_0
  have H2 : Hr x b_scod Z EL1 0 0 h0 [] 6 #[.val (.ref a)] [] := H1.ifF d_scod_3 (XT.i0_eq_f hcz)
  have H3 : Hr x b_scod Z EL1 0 0 h0 [] 7 #[.val (.ref a)] [.ref a] := H2.aloadN d_scod_6
  have H4 : Hr x b_scod Z EL1 0 0 h0 [] 10 #[.val (.ref a)] [.int (0 : Int32)] := H3.getF (w30 hw) Fa.2.1 d_scod_7
  have H5 : Hr x b_scod Z EL1 0 0 h0 [] 14 #[.val (.ref a)] [.int (0 : Int32)] := H4.goto d_scod_10
  exact H5.finZ d_scod_14 (t := .byte) (by first | rfl | decide) ⟨rfl, rfl, rfl⟩ sub0
def b_sil1 : Bx := (({ frames := 0, cells := 0, slots := 0, locals := 0 } : Room), (⟨"java/lang/String", "isLatin1", "()Z"⟩ : MethodName), jdk_42_method_154_code, 1, (Option.some Jvm.ClassFile.FieldType.boolean))
theorem ef_sil1 (a : Addr) (mI : MethodId) : entryFrame mI #[.ref a] 1 = mkF mI 0 #[.val (.ref a)] [] := by first | (simp [entryFrame, mkF, argsToLocals, Value.category]; done) | rfl
theorem pd_sil1 : parseMethodDescriptor "()Z" = some ⟨[], some .boolean⟩ := by decide +kernel
set_option maxRecDepth 65536 in
set_option maxHeartbeats 4000000 in
theorem ct_sil1 {a0 : Array Value} {Z : State} (hw : ∀ d ∈ tables_1, d.before a0 Z = true) (l : Launch) (nar kn : Bool) (hnr : nar = false) (h0 : Heap) (a t : Addr) (bs : List Int32) (Fa : Str Z h0 a t bs) (cz : Int32) (O : Sta Z Z.heap "java/lang/String" "COMPACT_STRINGS" "Z" (.int cz)) (hcz : ¬ cz = 0) :
    Ct l Z EL1 (⟨"java/lang/String", "isLatin1", "()Z"⟩ : MethodName) jdk_42_method_154_code 1 (Option.some Jvm.ClassFile.FieldType.boolean) ({ frames := 0, cells := 0, slots := 0, locals := 0 } : Room) #[.ref a] h0 [] nar kn (fun v h sn => v = some (.int 1) ∧ sn = [] ∧ h = h0) := by
  refine Ct.intro (plainFor_of_name pn_java_lang_String) (ew hw) (ef_sil1 a) ?_
  intro x hl hn0 hkn hsf hh H0
  have hnar : x.nar = false := hn0.trans hnr
  have H0 : Hr x b_sil1 Z EL1 0 0 h0 [] 0 #[.val (.ref a)] [] := H0
  have H1 : Hr x b_sil1 Z EL1 0 0 h0 [] 3 #[.val (.ref a)] [.int cz] := H0.getS (w18 hw) (O.ext H0.old) d_sil1_0
  have H2 : Hr x b_sil1 Z EL1 0 0 h0 [] 6 #[.val (.ref a)] [] := H1.ifF d_sil1_3 (XT.i0_eq_f hcz)
  have H3 : Hr x b_sil1 Z EL1 0 0 h0 [] 7 #[.val (.ref a)] [.ref a] := H2.aloadN d_sil1_6
  have H4 : Hr x b_sil1 Z EL1 0 0 h0 [] 10 #[.val (.ref a)] [.int (0 : Int32)] := H3.getF (w30 hw) Fa.2.1 d_sil1_7
  have H5 : Hr x b_sil1 Z EL1 0 0 h0 [] 13 #[.val (.ref a)] [] := H4.ifF d_sil1_10 (XT.i0_ne_f rfl)
  have H6 : Hr x b_sil1 Z EL1 0 0 h0 [] 14 #[.val (.ref a)] [.int (1 : Int32)] := H5.iconst d_sil1_13
  have H7 : Hr x b_sil1 Z EL1 0 0 h0 [] 18 #[.val (.ref a)] [.int (1 : Int32)] := H6.goto d_sil1_14
  exact H7.finZ d_sil1_18 (t := .boolean) (by first | rfl | decide) ⟨rfl, rfl, rfl⟩ sub0
def b_slen : Bx := (({ frames := 1, cells := 0, slots := 0, locals := 13 } : Room), (⟨"java/lang/String", "length", "()I"⟩ : MethodName), jdk_42_method_54_code, 1, (Option.some Jvm.ClassFile.FieldType.int))
theorem ef_slen (a : Addr) (mI : MethodId) : entryFrame mI #[.ref a] 1 = mkF mI 0 #[.val (.ref a)] [] := by first | (simp [entryFrame, mkF, argsToLocals, Value.category]; done) | rfl
theorem pd_slen : parseMethodDescriptor "()I" = some ⟨[], some .int⟩ := by decide +kernel
set_option maxRecDepth 65536 in
set_option maxHeartbeats 4000000 in
theorem ct_slen {a0 : Array Value} {Z : State} (hw : ∀ d ∈ tables_1, d.before a0 Z = true) (l : Launch) (nar kn : Bool) (hnr : nar = false) (h0 : Heap) (a t : Addr) (bs : List Int32) (Fa : Str Z h0 a t bs) (cz : Int32) (O : Sta Z Z.heap "java/lang/String" "COMPACT_STRINGS" "Z" (.int cz)) (hcz : ¬ cz = 0) :
    Ct l Z EL1 (⟨"java/lang/String", "length", "()I"⟩ : MethodName) jdk_42_method_54_code 1 (Option.some Jvm.ClassFile.FieldType.int) ({ frames := 1, cells := 0, slots := 0, locals := 13 } : Room) #[.ref a] h0 [] nar kn (fun v h sn => v = some (.int (Int32.ofNat bs.length)) ∧ sn = [] ∧ h = h0) := by
  refine Ct.intro (plainFor_of_name pn_java_lang_String) (ew hw) (ef_slen a) ?_
  intro x hl hn0 hkn hsf hh H0
  have hnar : x.nar = false := hn0.trans hnr
  have H0 : Hr x b_slen Z EL1 0 0 h0 [] 0 #[.val (.ref a)] [] := H0
  have H1 : Hr x b_slen Z EL1 0 0 h0 [] 1 #[.val (.ref a)] [.ref a] := H0.aloadN d_slen_0
  have H2 : Hr x b_slen Z EL1 0 0 h0 [] 4 #[.val (.ref a)] [.ref t] := H1.getF (w32 hw) Fa.2.2.1 d_slen_1
  have H3 : Hr x b_slen Z EL1 0 0 h0 [] 5 #[.val (.ref a)] [.int (Int32.ofNat bs.length)] := H2.arraylength Fa.2.2.2 d_slen_4 (hn := (by simp))
  have H4 : Hr x b_slen Z EL1 0 0 h0 [] 6 #[.val (.ref a)] [.ref a, .int (Int32.ofNat bs.length)] := H3.aloadN d_slen_5
  obtain ⟨_, h1, _, ⟨rfl, rfl, e1⟩, K1, H5⟩ := H4.callV (argsL := []) (rest := [.int (Int32.ofNat bs.length)]) (Wr := 1) (a := a) (ct_scod hw x.l x.nar x.kn hnar h0 a t bs Fa cz O hcz) sub0 Fa.1 (w70 hw) (w71 hw) (w73 hw) (w73 hw) (w72 hw) (w7 hw) (w74 hw) d_slen_6 pd_scod rfl (hf := by first | decide | (simp [b_slen, Bx.R]; done) | (simp [b_slen, Bx.R]; omega)) (hl := by first | decide | (simp [b_slen, Bx.R]; done) | (simp [b_slen, Bx.R]; omega)) (hc := by first | decide | (simp [b_slen, Bx.R]; done) | (simp [b_slen, Bx.R]; omega)) (hs := by first | decide | (simp [b_slen, Bx.R]; done) | (simp [b_slen, Bx.R]; omega))
  rw [e1] at H5
  have H5 : Hr x b_slen Z EL1 0 0 h0 [] 9 #[.val (.ref a)] [.int (0 : Int32), .int (Int32.ofNat bs.length)] := H5
  have H6 : Hr x b_slen Z EL1 0 0 h0 [] 10 #[.val (.ref a)] [.int (Int32.ofNat bs.length)] := H5.ishr d_slen_9 (hv := (shr0 _))
  exact H6.finI d_slen_10 ⟨rfl, rfl, rfl⟩ sub0
def b_semp : Bx := (({ frames := 0, cells := 0, slots := 0, locals := 0 } : Room), (⟨"java/lang/String", "isEmpty", "()Z"⟩ : MethodName), jdk_42_method_55_code, 1, (Option.some Jvm.ClassFile.FieldType.boolean))
theorem ef_semp (a : Addr) (mI : MethodId) : entryFrame mI #[.ref a] 1 = mkF mI 0 #[.val (.ref a)] [] := by first | (simp [entryFrame, mkF, argsToLocals, Value.category]; done) | rfl
theorem pd_semp : parseMethodDescriptor "()Z" = some ⟨[], some .boolean⟩ := by decide +kernel
set_option maxRecDepth 65536 in
set_option maxHeartbeats 4000000 in
theorem ct_semp {a0 : Array Value} {Z : State} (hw : ∀ d ∈ tables_1, d.before a0 Z = true) (l : Launch) (nar kn : Bool) (hnr : nar = false) (h0 : Heap) (a t : Addr) (bs : List Int32) (Fa : Str Z h0 a t bs) (cz : Int32) (O : Sta Z Z.heap "java/lang/String" "COMPACT_STRINGS" "Z" (.int cz)) (hcz : ¬ cz = 0) (hne : ¬ bs = []) :
    Ct l Z EL1 (⟨"java/lang/String", "isEmpty", "()Z"⟩ : MethodName) jdk_42_method_55_code 1 (Option.some Jvm.ClassFile.FieldType.boolean) ({ frames := 0, cells := 0, slots := 0, locals := 0 } : Room) #[.ref a] h0 [] nar kn (fun v h sn => v = some (.int 0) ∧ sn = [] ∧ h = h0) := by
  refine Ct.intro (plainFor_of_name pn_java_lang_String) (ew hw) (ef_semp a) ?_
  intro x hl hn0 hkn hsf hh H0
  have hnar : x.nar = false := hn0.trans hnr
  have H0 : Hr x b_semp Z EL1 0 0 h0 [] 0 #[.val (.ref a)] [] := H0
  have hl0 : ¬ Int32.ofNat bs.length = 0 := fun q => hne (List.length_eq_zero_iff.mp (ofNat_inj Fa.len (by decide) q))
  have H1 : Hr x b_semp Z EL1 0 0 h0 [] 1 #[.val (.ref a)] [.ref a] := H0.aloadN d_semp_0
  have H2 : Hr x b_semp Z EL1 0 0 h0 [] 4 #[.val (.ref a)] [.ref t] := H1.getF (w32 hw) Fa.2.2.1 d_semp_1
  have H3 : Hr x b_semp Z EL1 0 0 h0 [] 5 #[.val (.ref a)] [.int (Int32.ofNat bs.length)] := H2.arraylength Fa.2.2.2 d_semp_4 (hn := (by simp))
  have H4 : Hr x b_semp Z EL1 0 0 h0 [] 12 #[.val (.ref a)] [] := H3.ifT d_semp_5 (XT.i0_ne_t hl0)
  have H5 : Hr x b_semp Z EL1 0 0 h0 [] 13 #[.val (.ref a)] [.int (0 : Int32)] := H4.iconst d_semp_12
  exact H5.finZ d_semp_13 (t := .boolean) (by first | rfl | decide) ⟨rfl, rfl, rfl⟩ sub0
def b_pcix : Bx := (({ frames := 0, cells := 0, slots := 0, locals := 0 } : Room), (⟨"jdk/internal/util/Preconditions", "checkIndex", "(IILjava/util/function/BiFunction;)I"⟩ : MethodName), jdk_41_method_11_code, 3, (Option.some Jvm.ClassFile.FieldType.int))
theorem ef_pcix (i n : Nat) (f : Value) (hf : f.category = 1) (mI : MethodId) : entryFrame mI #[.int (Int32.ofNat i), .int (Int32.ofNat n), f] 3 = mkF mI 0 #[.val (.int (Int32.ofNat i)), .val (.int (Int32.ofNat n)), .val (f)] [] := by first | rfl | (simp [entryFrame, mkF, argsToLocals, Value.category, hf]; done) | (simp [entryFrame, mkF, argsToLocals, hf]; rfl)
theorem pn_jdk_internal_util_Preconditions : plainName "jdk/internal/util/Preconditions" = true := by first | (simp [plainName, overriddenIn]; done) | decide +kernel
theorem pd_pcix : parseMethodDescriptor "(IILjava/util/function/BiFunction;)I" = some ⟨[.int, .int, (.object "java/util/function/BiFunction")], some .int⟩ := by decide +kernel
set_option maxRecDepth 65536 in
set_option maxHeartbeats 4000000 in
theorem ct_pcix {a0 : Array Value} {Z : State} (hw : ∀ d ∈ tables_1, d.before a0 Z = true) (l : Launch) (nar kn : Bool) (hnr : nar = false) (h0 : Heap) (i n : Nat) (hi : i < n) (hn : n < 2147483648) (f : Value) (hf : f.category = 1) :
    Ct l Z EL1 (⟨"jdk/internal/util/Preconditions", "checkIndex", "(IILjava/util/function/BiFunction;)I"⟩ : MethodName) jdk_41_method_11_code 3 (Option.some Jvm.ClassFile.FieldType.int) ({ frames := 0, cells := 0, slots := 0, locals := 0 } : Room) #[.int (Int32.ofNat i), .int (Int32.ofNat n), f] h0 [] nar kn (fun v h sn => v = some (.int (Int32.ofNat i)) ∧ sn = [] ∧ h = h0) := by
  refine Ct.intro (plainFor_of_name pn_jdk_internal_util_Preconditions) (ew hw) (ef_pcix i n f hf) ?_
  intro x hl hn0 hkn hsf hh H0
  have hnar : x.nar = false := hn0.trans hnr
  have H0 : Hr x b_pcix Z EL1 0 0 h0 [] 0 #[.val (.int (Int32.ofNat i)), .val (.int (Int32.ofNat n)), .val (f)] [] := H0
  have hlt : Int32.ofNat i < Int32.ofNat n := by rw [Int32.lt_iff_toInt_lt, toInt_of rfl (by omega), toInt_of rfl (by omega)]; omega
  have H1 : Hr x b_pcix Z EL1 0 0 h0 [] 1 #[.val (.int (Int32.ofNat i)), .val (.int (Int32.ofNat n)), .val (f)] [.int (Int32.ofNat i)] := H0.iloadN d_pcix_0
  have H2 : Hr x b_pcix Z EL1 0 0 h0 [] 4 #[.val (.int (Int32.ofNat i)), .val (.int (Int32.ofNat n)), .val (f)] [] := H1.ifF d_pcix_1 (XT.i0_lt_f (nn32 (by omega)))
  have H3 : Hr x b_pcix Z EL1 0 0 h0 [] 5 #[.val (.int (Int32.ofNat i)), .val (.int (Int32.ofNat n)), .val (f)] [.int (Int32.ofNat i)] := H2.iloadN d_pcix_4
  have H4 : Hr x b_pcix Z EL1 0 0 h0 [] 6 #[.val (.int (Int32.ofNat i)), .val (.int (Int32.ofNat n)), .val (f)] [.int (Int32.ofNat n), .int (Int32.ofNat i)] := H3.iloadN d_pcix_5
  have H5 : Hr x b_pcix Z EL1 0 0 h0 [] 16 #[.val (.int (Int32.ofNat i)), .val (.int (Int32.ofNat n)), .val (f)] [] := H4.icmpT d_pcix_6 (XT.ii_lt_t hlt)
  have H6 : Hr x b_pcix Z EL1 0 0 h0 [] 17 #[.val (.int (Int32.ofNat i)), .val (.int (Int32.ofNat n)), .val (f)] [.int (Int32.ofNat i)] := H5.iloadN d_pcix_16
  exact H6.finI d_pcix_17 ⟨rfl, rfl, rfl⟩ sub0
def b_scix : Bx := (({ frames := 1, cells := 0, slots := 0, locals := 14 } : Room), (⟨"java/lang/String", "checkIndex", "(II)V"⟩ : MethodName), jdk_42_method_155_code, 2, (Option.none : Option Jvm.ClassFile.FieldType))
theorem ef_scix (i n : Nat) (mI : MethodId) : entryFrame mI #[.int (Int32.ofNat i), .int (Int32.ofNat n)] 2 = mkF mI 0 #[.val (.int (Int32.ofNat i)), .val (.int (Int32.ofNat n))] [] := by first | (simp [entryFrame, mkF, argsToLocals, Value.category]; done) | rfl
theorem pd_scix : parseMethodDescriptor "(II)V" = some ⟨[.int, .int], none⟩ := by decide +kernel
set_option maxRecDepth 65536 in
set_option maxHeartbeats 4000000 in
theorem ct_scix {a0 : Array Value} {Z : State} (hw : ∀ d ∈ tables_1, d.before a0 Z = true) (l : Launch) (nar kn : Bool) (hnr : nar = false) (h0 : Heap) (i n : Nat) (hi : i < n) (hn : n < 2147483648) (f : Value) (hfr : f.isRef = true) (P : Sta Z Z.heap "jdk/internal/util/Preconditions" "SIOOBE_FORMATTER" "Ljava/util/function/BiFunction;" f)  :
    Ct l Z EL1 (⟨"java/lang/String", "checkIndex", "(II)V"⟩ : MethodName) jdk_42_method_155_code 2 (Option.none : Option Jvm.ClassFile.FieldType) ({ frames := 1, cells := 0, slots := 0, locals := 14 } : Room) #[.int (Int32.ofNat i), .int (Int32.ofNat n)] h0 [] nar kn (fun v h sn => v = none ∧ sn = [] ∧ h = h0) := by
  refine Ct.intro (plainFor_of_name pn_java_lang_String) (ew hw) (ef_scix i n) ?_
  intro x hl hn0 hkn hsf hh H0
  have hnar : x.nar = false := hn0.trans hnr
  have H0 : Hr x b_scix Z EL1 0 0 h0 [] 0 #[.val (.int (Int32.ofNat i)), .val (.int (Int32.ofNat n))] [] := H0
  have hfc : f.category = 1 := by rcases ref_cases hfr with rfl | ⟨a, rfl⟩ <;> rfl
  have H1 : Hr x b_scix Z EL1 0 0 h0 [] 1 #[.val (.int (Int32.ofNat i)), .val (.int (Int32.ofNat n))] [.int (Int32.ofNat i)] := H0.iloadN d_scix_0
  have H2 : Hr x b_scix Z EL1 0 0 h0 [] 2 #[.val (.int (Int32.ofNat i)), .val (.int (Int32.ofNat n))] [.int (Int32.ofNat n), .int (Int32.ofNat i)] := H1.iloadN d_scix_1
  have H3 : Hr x b_scix Z EL1 0 0 h0 [] 5 #[.val (.int (Int32.ofNat i)), .val (.int (Int32.ofNat n))] [f, .int (Int32.ofNat n), .int (Int32.ofNat i)] := H2.getS (w126 hw) (P.ext H2.old) d_scix_2
  obtain ⟨_, h1, _, ⟨rfl, rfl, e1⟩, K1, H4⟩ := H3.callS (argsL := [.int (Int32.ofNat i), .int (Int32.ofNat n), f]) (rest := []) (Wr := 0) (ct_pcix hw x.l x.nar x.kn hnar h0 i n hi hn f hfc) sub0 (w128 hw) (w129 hw) (w127 hw) (w130 hw) d_scix_5 pd_pcix rfl (hf := by first | decide | (simp [b_scix, Bx.R]; done) | (simp [b_scix, Bx.R]; omega)) (hl := by first | decide | (simp [b_scix, Bx.R]; done) | (simp [b_scix, Bx.R]; omega)) (hc := by first | decide | (simp [b_scix, Bx.R]; done) | (simp [b_scix, Bx.R]; omega)) (hs := by first | decide | (simp [b_scix, Bx.R]; done) | (simp [b_scix, Bx.R]; omega))
  rw [e1] at H4
  have H4 : Hr x b_scix Z EL1 0 0 h0 [] 8 #[.val (.int (Int32.ofNat i)), .val (.int (Int32.ofNat n))] [.int (Int32.ofNat i)] := H4
  have H5 : Hr x b_scix Z EL1 0 0 h0 [] 9 #[.val (.int (Int32.ofNat i)), .val (.int (Int32.ofNat n))] [] := H4.pop d_scix_8
  exact H5.finN d_scix_9 rfl (by decide) (by decide) sub0 ⟨rfl, rfl, rfl⟩
def b_lcha : Bx := (({ frames := 2, cells := 0, slots := 0, locals := 27 } : Room), (⟨"java/lang/StringLatin1", "charAt", "([BI)C"⟩ : MethodName), jdk_43_method_2_code, 2, (Option.some Jvm.ClassFile.FieldType.char))
theorem ef_lcha (t : Addr) (i : Nat) (mI : MethodId) : entryFrame mI #[.ref t, .int (Int32.ofNat i)] 2 = mkF mI 0 #[.val (.ref t), .val (.int (Int32.ofNat i))] [] := by first | (simp [entryFrame, mkF, argsToLocals, Value.category]; done) | rfl
theorem pd_lcha : parseMethodDescriptor "([BI)C" = some ⟨[(.array .byte), .int], some .char⟩ := by decide +kernel
set_option maxRecDepth 65536 in
set_option maxHeartbeats 4000000 in
theorem ct_lcha {a0 : Array Value} {Z : State} (hw : ∀ d ∈ tables_1, d.before a0 Z = true) (l : Launch) (nar kn : Bool) (hnr : nar = false) (h0 : Heap) (t : Addr) (i : Nat) (bs : List Int32) (Ft : Ar Z h0 t .byte (bs.map Value.int)) (hi : i < bs.length) (f : Value) (hfr : f.isRef = true) (P : Sta Z Z.heap "jdk/internal/util/Preconditions" "SIOOBE_FORMATTER" "Ljava/util/function/BiFunction;" f)  :
    Ct l Z EL1 (⟨"java/lang/StringLatin1", "charAt", "([BI)C"⟩ : MethodName) jdk_43_method_2_code 2 (Option.some Jvm.ClassFile.FieldType.char) ({ frames := 2, cells := 0, slots := 0, locals := 27 } : Room) #[.ref t, .int (Int32.ofNat i)] h0 [] nar kn (fun v h sn => v = some (.int (u8 (bs.getD i 0))) ∧ sn = [] ∧ h = h0) := by
  refine Ct.intro (plainFor_of_name pn_java_lang_StringLatin1) (ew hw) (ef_lcha t i) ?_
  intro x hl hn0 hkn hsf hh H0
  have hnar : x.nar = false := hn0.trans hnr
  have H0 : Hr x b_lcha Z EL1 0 0 h0 [] 0 #[.val (.ref t), .val (.int (Int32.ofNat i))] [] := H0
  have hlen : bs.length < 2147483648 := by simpa using Ft.len
  have H1 : Hr x b_lcha Z EL1 0 0 h0 [] 1 #[.val (.ref t), .val (.int (Int32.ofNat i))] [.int (Int32.ofNat i)] := H0.iloadN d_lcha_0
  have H2 : Hr x b_lcha Z EL1 0 0 h0 [] 2 #[.val (.ref t), .val (.int (Int32.ofNat i))] [.ref t, .int (Int32.ofNat i)] := H1.aloadN d_lcha_1
  have H3 : Hr x b_lcha Z EL1 0 0 h0 [] 3 #[.val (.ref t), .val (.int (Int32.ofNat i))] [.int (Int32.ofNat bs.length), .int (Int32.ofNat i)] := H2.arraylength Ft d_lcha_2 (hn := (by simp))
  obtain ⟨_, h1, _, ⟨rfl, rfl, e1⟩, K1, H4⟩ := H3.callS (argsL := [.int (Int32.ofNat i), .int (Int32.ofNat bs.length)]) (rest := []) (Wr := 0) (ct_scix hw x.l x.nar x.kn hnar h0 i bs.length hi hlen f hfr P) sub0 (w123 hw) (w124 hw) (w7 hw) (w125 hw) d_lcha_3 pd_scix rfl (hf := by first | decide | (simp [b_lcha, Bx.R]; done) | (simp [b_lcha, Bx.R]; omega)) (hl := by first | decide | (simp [b_lcha, Bx.R]; done) | (simp [b_lcha, Bx.R]; omega)) (hc := by first | decide | (simp [b_lcha, Bx.R]; done) | (simp [b_lcha, Bx.R]; omega)) (hs := by first | decide | (simp [b_lcha, Bx.R]; done) | (simp [b_lcha, Bx.R]; omega))
  rw [e1] at H4
  have H4 : Hr x b_lcha Z EL1 0 0 h0 [] 6 #[.val (.ref t), .val (.int (Int32.ofNat i))] [] := H4
  have H5 : Hr x b_lcha Z EL1 0 0 h0 [] 7 #[.val (.ref t), .val (.int (Int32.ofNat i))] [.ref t] := H4.aloadN d_lcha_6
  have H6 : Hr x b_lcha Z EL1 0 0 h0 [] 8 #[.val (.ref t), .val (.int (Int32.ofNat i))] [.int (Int32.ofNat i), .ref t] := H5.iloadN d_lcha_7
  have H7 : Hr x b_lcha Z EL1 0 0 h0 [] 9 #[.val (.ref t), .val (.int (Int32.ofNat i))] [.int (bs.getD i 0)] := H6.baload Ft d_lcha_8 (i := i) rfl (by simp [List.getD, hi])
  have H8 : Hr x b_lcha Z EL1 0 0 h0 [] 12 #[.val (.ref t), .val (.int (Int32.ofNat i))] [.int (255 : Int32), .int (bs.getD i 0)] := H7.sipush d_lcha_9
  have H9 : Hr x b_lcha Z EL1 0 0 h0 [] 13 #[.val (.ref t), .val (.int (Int32.ofNat i))] [.int ((bs.getD i 0) &&& (255 : Int32))] := H8.iand d_lcha_12
  have H10 : Hr x b_lcha Z EL1 0 0 h0 [] 14 #[.val (.ref t), .val (.int (Int32.ofNat i))] [.int (u8 (bs.getD i 0))] := H9.i2c d_lcha_13
  exact H10.finZ d_lcha_14 (t := .char) (by exact nar_u8 _) ⟨rfl, rfl, rfl⟩ sub0
def b_scha : Bx := (({ frames := 3, cells := 0, slots := 0, locals := 40 } : Room), (⟨"java/lang/String", "charAt", "(I)C"⟩ : MethodName), jdk_42_method_56_code, 2, (Option.some Jvm.ClassFile.FieldType.char))
theorem ef_scha (a : Addr) (i : Nat) (mI : MethodId) : entryFrame mI #[.ref a, .int (Int32.ofNat i)] 2 = mkF mI 0 #[.val (.ref a), .val (.int (Int32.ofNat i))] [] := by first | (simp [entryFrame, mkF, argsToLocals, Value.category]; done) | rfl
theorem pd_scha : parseMethodDescriptor "(I)C" = some ⟨[.int], some .char⟩ := by decide +kernel
set_option maxRecDepth 65536 in
set_option maxHeartbeats 4000000 in
theorem ct_scha {a0 : Array Value} {Z : State} (hw : ∀ d ∈ tables_1, d.before a0 Z = true) (l : Launch) (nar kn : Bool) (hnr : nar = false) (h0 : Heap) (a t : Addr) (i : Nat) (bs : List Int32) (Fa : Str Z h0 a t bs) (hi : i < bs.length) (f : Value) (hfr : f.isRef = true) (P : Sta Z Z.heap "jdk/internal/util/Preconditions" "SIOOBE_FORMATTER" "Ljava/util/function/BiFunction;" f) (cz : Int32) (O : Sta Z Z.heap "java/lang/String" "COMPACT_STRINGS" "Z" (.int cz)) (hcz : ¬ cz = 0) :
    Ct l Z EL1 (⟨"java/lang/String", "charAt", "(I)C"⟩ : MethodName) jdk_42_method_56_code 2 (Option.some Jvm.ClassFile.FieldType.char) ({ frames := 3, cells := 0, slots := 0, locals := 40 } : Room) #[.ref a, .int (Int32.ofNat i)] h0 [] nar kn (fun v h sn => v = some (.int (u8 (bs.getD i 0))) ∧ sn = [] ∧ h = h0) := by
  refine Ct.intro (plainFor_of_name pn_java_lang_String) (ew hw) (ef_scha a i) ?_
  intro x hl hn0 hkn hsf hh H0
  have hnar : x.nar = false := hn0.trans hnr
  have H0 : Hr x b_scha Z EL1 0 0 h0 [] 0 #[.val (.ref a), .val (.int (Int32.ofNat i))] [] := H0
  have H1 : Hr x b_scha Z EL1 0 0 h0 [] 1 #[.val (.ref a), .val (.int (Int32.ofNat i))] [.ref a] := H0.aloadN d_scha_0
  obtain ⟨_, h1, _, ⟨rfl, rfl, e1⟩, K1, H2⟩ := H1.callV (argsL := []) (rest := []) (Wr := 0) (a := a) (ct_sil1 hw x.l x.nar x.kn hnar h0 a t bs Fa cz O hcz) sub0 Fa.1 (w60 hw) (w61 hw) (w63 hw) (w63 hw) (w62 hw) (w7 hw) (w64 hw) d_scha_1 pd_sil1 rfl (hf := by first | decide | (simp [b_scha, Bx.R]; done) | (simp [b_scha, Bx.R]; omega)) (hl := by first | decide | (simp [b_scha, Bx.R]; done) | (simp [b_scha, Bx.R]; omega)) (hc := by first | decide | (simp [b_scha, Bx.R]; done) | (simp [b_scha, Bx.R]; omega)) (hs := by first | decide | (simp [b_scha, Bx.R]; done) | (simp [b_scha, Bx.R]; omega))
  rw [e1] at H2
  have H2 : Hr x b_scha Z EL1 0 0 h0 [] 4 #[.val (.ref a), .val (.int (Int32.ofNat i))] [.int (1 : Int32)] := H2
  have H3 : Hr x b_scha Z EL1 0 0 h0 [] 7 #[.val (.ref a), .val (.int (Int32.ofNat i))] [] := H2.ifF d_scha_4 (XT.i0_eq_f (by decide))
  have H4 : Hr x b_scha Z EL1 0 0 h0 [] 8 #[.val (.ref a), .val (.int (Int32.ofNat i))] [.ref a] := H3.aloadN d_scha_7
  have H5 : Hr x b_scha Z EL1 0 0 h0 [] 11 #[.val (.ref a), .val (.int (Int32.ofNat i))] [.ref t] := H4.getF (w32 hw) Fa.2.2.1 d_scha_8
  have H6 : Hr x b_scha Z EL1 0 0 h0 [] 12 #[.val (.ref a), .val (.int (Int32.ofNat i))] [.int (Int32.ofNat i), .ref t] := H5.iloadN d_scha_11
  obtain ⟨_, h2, _, ⟨rfl, rfl, e2⟩, K2, H7⟩ := H6.callS (argsL := [.ref t, .int (Int32.ofNat i)]) (rest := []) (Wr := 0) (ct_lcha hw x.l x.nar x.kn hnar h0 t i bs Fa.2.2.2 hi f hfr P) sub0 (w120 hw) (w121 hw) (w77 hw) (w122 hw) d_scha_12 pd_lcha rfl (hf := by first | decide | (simp [b_scha, Bx.R]; done) | (simp [b_scha, Bx.R]; omega)) (hl := by first | decide | (simp [b_scha, Bx.R]; done) | (simp [b_scha, Bx.R]; omega)) (hc := by first | decide | (simp [b_scha, Bx.R]; done) | (simp [b_scha, Bx.R]; omega)) (hs := by first | decide | (simp [b_scha, Bx.R]; done) | (simp [b_scha, Bx.R]; omega))
  rw [e2] at H7
  have H7 : Hr x b_scha Z EL1 0 0 h0 [] 15 #[.val (.ref a), .val (.int (Int32.ofNat i))] [.int (u8 (bs.getD i 0))] := H7
  exact H7.finZ d_scha_15 (t := .char) (by exact nar_u8 _) ⟨rfl, rfl, rfl⟩ sub0
/-- a Latin-1 StringBuilder: it holds bs, and r places are free -/
def Sbd (Z : State) (h : Heap) (s t : Addr) (bs : List Int32) (r : Nat) : Prop := Exa Z h s "java/lang/StringBuilder" ∧ Fld Z h s "java/lang/AbstractStringBuilder" "value" "[B" (.ref t) ∧ Fld Z h s "java/lang/AbstractStringBuilder" "coder" "B" (.int 0) ∧ Fld Z h s "java/lang/AbstractStringBuilder" "count" "I" (.int (Int32.ofNat bs.length)) ∧ Ar Z h t .byte ((bs ++ List.replicate r 0).map Value.int)
theorem Sbd.ext {Z : State} {h h' : Heap} {s t : Addr} {bs : List Int32} {r : Nat} (F : Sbd Z h s t bs r) (E : Ext h h') : Sbd Z h' s t bs r := ⟨F.1.ext E, F.2.1.ext E, F.2.2.1.ext E, F.2.2.2.1.ext E, F.2.2.2.2.ext E⟩
theorem Sbd.keep {Z : State} {h h' : Heap} {s t : Addr} {bs : List Int32} {r : Nat} {ws : List Addr} (F : Sbd Z h s t bs r) (K : Keep h h' ws) (q : s ∉ ws) (q' : t ∉ ws) : Sbd Z h' s t bs r := ⟨F.1.keep K, F.2.1.keep K q, F.2.2.1.keep K q, F.2.2.2.1.keep K q, F.2.2.2.2.keep K q'⟩
theorem Sbd.lt {Z : State} {h : Heap} {s t : Addr} {bs : List Int32} {r : Nat} (F : Sbd Z h s t bs r) : h.size > s := F.1.lt
theorem Sbd.lt' {Z : State} {h : Heap} {s t : Addr} {bs : List Int32} {r : Nat} (F : Sbd Z h s t bs r) : h.size > t := F.2.2.2.2.lt
theorem sub_le {m c : Nat} (h : m ≤ c) (hc : c < 2147483648) : ¬ (0 : Int32) < Int32.ofNat m - Int32.ofNat c := by
  have h1 := c_isub (Int32.ofNat m) (Int32.ofNat c)
  rw [toInt_of (n := Int32.ofNat m) rfl (by omega), toInt_of (n := Int32.ofNat c) rfl (by omega)] at h1
  have h2 := rng32 (Int32.ofNat m - Int32.ofNat c)
  have e1 : (0 : Int32).toInt = 0 := by decide
  rw [Int32.lt_iff_toInt_lt, e1]
  omega
theorem ofNat_add (m n : Nat) : Int32.ofNat m + Int32.ofNat n = Int32.ofNat (m + n) := by
  apply Int32.toBitVec_inj.mp
  simp [Int32.ofNat, Int32.toBitVec, BitVec.ofNat_add]
theorem put_next {bs ds : List Int32} {r : Nat} (h : ds.length ≤ r) : ((bs ++ List.replicate r 0).map Value.int).take bs.length ++ ((ds.map Value.int).drop 0).take ds.length ++ ((bs ++ List.replicate r 0).map Value.int).drop (bs.length + ds.length) = ((bs ++ ds) ++ List.replicate (r - ds.length) 0).map Value.int := by
  have e3 : ((ds.map Value.int).drop 0).take ds.length = ds.map Value.int := by rw [List.drop_zero]; exact List.take_of_length_le (by simp)
  have e1 : (bs ++ List.replicate r 0).take bs.length = bs := by simp
  have e2 : (bs ++ List.replicate r (0 : Int32)).drop (bs.length + ds.length) = List.replicate (r - ds.length) 0 := by rw [List.drop_append]; simp
  rw [e3, ← List.map_take, ← List.map_drop, e1, e2]
  simp
def b_abin : Bx := (({ frames := 1, cells := 1, slots := 16, locals := 12 } : Room), (⟨"java/lang/AbstractStringBuilder", "<init>", "(I)V"⟩ : MethodName), jdk_68_method_2_code, 2, (Option.none : Option Jvm.ClassFile.FieldType))
theorem ef_abin (s : Addr) (mI : MethodId) : entryFrame mI #[.ref s, .int (16 : Int32)] 2 = mkF mI 0 #[.val (.ref s), .val (.int (16 : Int32))] [] := by first | (simp [entryFrame, mkF, argsToLocals, Value.category]; done) | rfl
theorem pn_java_lang_AbstractStringBuilder : plainName "java/lang/AbstractStringBuilder" = true := by first | (simp [plainName, overriddenIn]; done) | decide +kernel
theorem pd_abin : parseMethodDescriptor "(I)V" = some ⟨[.int], none⟩ := by decide +kernel
set_option maxRecDepth 65536 in
set_option maxHeartbeats 4000000 in
theorem ct_abin {a0 : Array Value} {Z : State} (hw : ∀ d ∈ tables_1, d.before a0 Z = true) (l : Launch) (nar kn : Bool) (hnr : nar = false) (h0 : Heap) (s : Addr) (Es : Exa Z h0 s "java/lang/StringBuilder") (F0 : Fld Z h0 s "java/lang/AbstractStringBuilder" "value" "[B" (.null)) (F1 : Fld Z h0 s "java/lang/AbstractStringBuilder" "coder" "B" (.int 0)) (F2 : Fld Z h0 s "java/lang/AbstractStringBuilder" "count" "I" (.int 0)) (cz : Int32) (O : Sta Z Z.heap "java/lang/String" "COMPACT_STRINGS" "Z" (.int cz)) (hcz : ¬ cz = 0) :
    Ct l Z EL1 (⟨"java/lang/AbstractStringBuilder", "<init>", "(I)V"⟩ : MethodName) jdk_68_method_2_code 2 (Option.none : Option Jvm.ClassFile.FieldType) ({ frames := 1, cells := 1, slots := 16, locals := 12 } : Room) #[.ref s, .int (16 : Int32)] h0 [s] nar kn (fun v h sn => ∃ t, v = none ∧ sn = [t] ∧ h0.size ≤ t ∧ Sbd Z h s t [] 16) := by
  refine Ct.intro (plainFor_of_name pn_java_lang_AbstractStringBuilder) (ew hw) (ef_abin s) ?_
  intro x hl hn0 hkn hsf hh H0
  have hnar : x.nar = false := hn0.trans hnr
  have H0 : Hr x b_abin Z EL1 0 0 h0 [s] 0 #[.val (.ref s), .val (.int (16 : Int32))] [] := H0
  have n01 := slot_ne (a0 := a0) (C := "java/lang/StringBuilder") (O := "java/lang/AbstractStringBuilder") (O' := "java/lang/AbstractStringBuilder") (n := "value") (n' := "coder") (Or.inl (w156 hw)) (Or.inl (w158 hw)) (by decide) (t := .array .byte) (t' := .byte) (by decide) (by decide)
  have n02 := slot_ne (a0 := a0) (C := "java/lang/StringBuilder") (O := "java/lang/AbstractStringBuilder") (O' := "java/lang/AbstractStringBuilder") (n := "value") (n' := "count") (Or.inl (w156 hw)) (Or.inl (w172 hw)) (by decide) (t := .array .byte) (t' := .int) (by decide) (by decide)
  have n12 := slot_ne (a0 := a0) (C := "java/lang/StringBuilder") (O := "java/lang/AbstractStringBuilder") (O' := "java/lang/AbstractStringBuilder") (n := "coder") (n' := "count") (Or.inl (w158 hw)) (Or.inl (w172 hw)) (by decide) (t := .byte) (t' := .int) (by decide) (by decide)
  have H1 : Hr x b_abin Z EL1 0 0 h0 [s] 1 #[.val (.ref s), .val (.int (16 : Int32))] [.ref s] := H0.aloadN d_abin_0
  have H2 : Hr x b_abin Z EL1 0 0 h0 [s] 4 #[.val (.ref s), .val (.int (16 : Int32))] [] := H1.initO (Wr := 0) (w153 hw) (w16 hw) (w17 hw) d_abin_1 (hf := by first | decide | (simp [b_abin, Bx.R]; done) | (simp [b_abin, Bx.R]; omega)) (hl := by first | decide | (simp [b_abin, Bx.R]; done) | (simp [b_abin, Bx.R]; omega))
  have H3 : Hr x b_abin Z EL1 0 0 h0 [s] 7 #[.val (.ref s), .val (.int (16 : Int32))] [.int cz] := H2.getS (w154 hw) (O.ext H2.old) d_abin_4
  have H4 : Hr x b_abin Z EL1 0 0 h0 [s] 10 #[.val (.ref s), .val (.int (16 : Int32))] [] := H3.ifF d_abin_7 (XT.i0_eq_f hcz)
  have H5 : Hr x b_abin Z EL1 0 0 h0 [s] 11 #[.val (.ref s), .val (.int (16 : Int32))] [.ref s] := H4.aloadN d_abin_10
  have H6 : Hr x b_abin Z EL1 0 0 h0 [s] 12 #[.val (.ref s), .val (.int (16 : Int32))] [.int (16 : Int32), .ref s] := H5.iloadN d_abin_11
  obtain ⟨h1, E1, Ft, H7⟩ := H6.newarray (aty := .byte) (cap := 16) (w23 hw) d_abin_12 (by decide) (by decide) (by decide) (by first | decide | (simp [b_abin, Bx.R]; done) | (simp [b_abin, Bx.R]; omega)) (by first | decide | (simp [b_abin, Bx.R]; done) | (simp [b_abin, Bx.R]; omega))
  obtain ⟨t, g_t⟩ : ∃ z, z = h0.size := ⟨_, rfl⟩
  rw [← g_t] at Ft H7
  have Ft : Ar Z h1 t .byte (((([] : List Int32) ++ List.replicate 16 0)).map Value.int) := Ft
  have H7 : Hr x b_abin Z EL1 1 16 h1 [t, s] 14 #[.val (.ref s), .val (.int (16 : Int32))] [.ref t, .ref s] := H7
  have hts : @Ne Nat t s := by have := exa_lt Es; omega
  obtain ⟨h2, W2, H8⟩ := H7.putF (by simp) (w155 hw) (F0.ext E1) (Es.ext E1) (Or.inl (w156 hw)) (w142 hw) d_abin_14 (ty := (.array .byte))
  have H8 : Hr x b_abin Z EL1 1 16 h2 [t, s] 17 #[.val (.ref s), .val (.int (16 : Int32))] [] := H8
  have H9 : Hr x b_abin Z EL1 1 16 h2 [t, s] 18 #[.val (.ref s), .val (.int (16 : Int32))] [.ref s] := H8.aloadN d_abin_17
  have H10 : Hr x b_abin Z EL1 1 16 h2 [t, s] 19 #[.val (.ref s), .val (.int (16 : Int32))] [.int (0 : Int32), .ref s] := H9.iconst d_abin_18
  obtain ⟨h3, W3, H11⟩ := H10.putF (by simp) (w157 hw) ((F1.ext E1).other W2 (Or.inr (Ne.symm n01))) ((Es.ext E1).wr W2) (Or.inl (w158 hw)) (w142 hw) d_abin_19 (ty := .byte)
  have H11 : Hr x b_abin Z EL1 1 16 h3 [t, s] 22 #[.val (.ref s), .val (.int (16 : Int32))] [] := H11
  have H12 : Hr x b_abin Z EL1 1 16 h3 [t, s] 38 #[.val (.ref s), .val (.int (16 : Int32))] [] := H11.goto d_abin_22
  exact H12.finN d_abin_38 rfl (by decide) (by decide) (sub1 (by simp)) ⟨t, rfl, rfl, by omega, ((Es.ext E1).wr W2).wr W3, (Fld.same W2 (F0.ext E1)).other W3 (Or.inr n01), Fld.same W3 ((F1.ext E1).other W2 (Or.inr (Ne.symm n01))), ((F2.ext E1).other W2 (Or.inr (Ne.symm n02))).other W3 (Or.inr (Ne.symm n12)), (Ft.other W2 hts).other W3 hts⟩
def b_sbin : Bx := (({ frames := 2, cells := 1, slots := 16, locals := 25 } : Room), (⟨"java/lang/StringBuilder", "<init>", "()V"⟩ : MethodName), jdk_67_method_1_code, 1, (Option.none : Option Jvm.ClassFile.FieldType))
theorem ef_sbin (s : Addr) (mI : MethodId) : entryFrame mI #[.ref s] 1 = mkF mI 0 #[.val (.ref s)] [] := by first | (simp [entryFrame, mkF, argsToLocals, Value.category]; done) | rfl
theorem pn_java_lang_StringBuilder : plainName "java/lang/StringBuilder" = true := by first | (simp [plainName, overriddenIn]; done) | decide +kernel
theorem pd_sbin : parseMethodDescriptor "()V" = some ⟨[], none⟩ := by decide +kernel
set_option maxRecDepth 65536 in
set_option maxHeartbeats 4000000 in
theorem ct_sbin {a0 : Array Value} {Z : State} (hw : ∀ d ∈ tables_1, d.before a0 Z = true) (l : Launch) (nar kn : Bool) (hnr : nar = false) (h0 : Heap) (s : Addr) (Es : Exa Z h0 s "java/lang/StringBuilder") (F0 : Fld Z h0 s "java/lang/AbstractStringBuilder" "value" "[B" (.null)) (F1 : Fld Z h0 s "java/lang/AbstractStringBuilder" "coder" "B" (.int 0)) (F2 : Fld Z h0 s "java/lang/AbstractStringBuilder" "count" "I" (.int 0)) (cz : Int32) (O : Sta Z Z.heap "java/lang/String" "COMPACT_STRINGS" "Z" (.int cz)) (hcz : ¬ cz = 0) :
    Ct l Z EL1 (⟨"java/lang/StringBuilder", "<init>", "()V"⟩ : MethodName) jdk_67_method_1_code 1 (Option.none : Option Jvm.ClassFile.FieldType) ({ frames := 2, cells := 1, slots := 16, locals := 25 } : Room) #[.ref s] h0 [s] nar kn (fun v h sn => ∃ t, v = none ∧ sn = [t] ∧ h0.size ≤ t ∧ Sbd Z h s t [] 16) := by
  refine Ct.intro (plainFor_of_name pn_java_lang_StringBuilder) (ew hw) (ef_sbin s) ?_
  intro x hl hn0 hkn hsf hh H0
  have hnar : x.nar = false := hn0.trans hnr
  have H0 : Hr x b_sbin Z EL1 0 0 h0 [s] 0 #[.val (.ref s)] [] := H0
  have H1 : Hr x b_sbin Z EL1 0 0 h0 [s] 1 #[.val (.ref s)] [.ref s] := H0.aloadN d_sbin_0
  have H2 : Hr x b_sbin Z EL1 0 0 h0 [s] 3 #[.val (.ref s)] [.int (16 : Int32), .ref s] := H1.bipush d_sbin_1
  obtain ⟨_, h1, _, ⟨t, rfl, rfl, ht, Fs⟩, K1, H3⟩ := H2.callI (argsL := [.int (16 : Int32)]) (rest := []) (Wr := 0) (a := s) (ct_abin hw x.l x.nar x.kn hnar h0 s Es F0 F1 F2 cz O hcz) (sub1 (by simp)) (w147 hw) (w148 hw) (w151 hw) (w152 hw) d_sbin_3 pd_abin rfl (hf := by first | decide | (simp [b_sbin, Bx.R]; done) | (simp [b_sbin, Bx.R]; omega)) (hl := by first | decide | (simp [b_sbin, Bx.R]; done) | (simp [b_sbin, Bx.R]; omega)) (hc := by first | decide | (simp [b_sbin, Bx.R]; done) | (simp [b_sbin, Bx.R]; omega)) (hs := by first | decide | (simp [b_sbin, Bx.R]; done) | (simp [b_sbin, Bx.R]; omega))
  have H3 : Hr x b_sbin Z EL1 1 16 h1 [t, s] 6 #[.val (.ref s)] [] := H3
  exact H3.finN d_sbin_6 rfl (by decide) (by decide) (sub1 (by simp)) ⟨t, rfl, rfl, ht, Fs⟩
def b_ecap : Bx := (({ frames := 0, cells := 0, slots := 0, locals := 0 } : Room), (⟨"java/lang/AbstractStringBuilder", "ensureCapacityInternal", "(I)V"⟩ : MethodName), jdk_68_method_9_code, 3, (Option.none : Option Jvm.ClassFile.FieldType))
theorem ef_ecap (s : Addr) (m : Nat) (mI : MethodId) : entryFrame mI #[.ref s, .int (Int32.ofNat m)] 3 = mkF mI 0 #[.val (.ref s), .val (.int (Int32.ofNat m)), .unset] [] := by first | (simp [entryFrame, mkF, argsToLocals, Value.category]; done) | rfl
theorem pd_ecap : parseMethodDescriptor "(I)V" = some ⟨[.int], none⟩ := by decide +kernel
set_option maxRecDepth 65536 in
set_option maxHeartbeats 4000000 in
theorem ct_ecap {a0 : Array Value} {Z : State} (hw : ∀ d ∈ tables_1, d.before a0 Z = true) (l : Launch) (nar kn : Bool) (hnr : nar = false) (h0 : Heap) (s t : Addr) (m : Nat) (bs : List Int32) (r : Nat) (F : Sbd Z h0 s t bs r) (hm : m ≤ bs.length + r) :
    Ct l Z EL1 (⟨"java/lang/AbstractStringBuilder", "ensureCapacityInternal", "(I)V"⟩ : MethodName) jdk_68_method_9_code 3 (Option.none : Option Jvm.ClassFile.FieldType) ({ frames := 0, cells := 0, slots := 0, locals := 0 } : Room) #[.ref s, .int (Int32.ofNat m)] h0 [] nar kn (fun v h sn => v = none ∧ sn = [] ∧ h = h0) := by
  refine Ct.intro (plainFor_of_name pn_java_lang_AbstractStringBuilder) (ew hw) (ef_ecap s m) ?_
  intro x hl hn0 hkn hsf hh H0
  have hnar : x.nar = false := hn0.trans hnr
  have H0 : Hr x b_ecap Z EL1 0 0 h0 [] 0 #[.val (.ref s), .val (.int (Int32.ofNat m)), .unset] [] := H0
  have hl := F.2.2.2.2.len
  rw [List.length_map, List.length_append, List.length_replicate] at hl
  have hle : ¬ (0 : Int32) < Int32.ofNat m - Int32.ofNat (bs.length + r) := sub_le hm hl
  have H1 : Hr x b_ecap Z EL1 0 0 h0 [] 1 #[.val (.ref s), .val (.int (Int32.ofNat m)), .unset] [.ref s] := H0.aloadN d_ecap_0
  have H2 : Hr x b_ecap Z EL1 0 0 h0 [] 4 #[.val (.ref s), .val (.int (Int32.ofNat m)), .unset] [.ref t] := H1.getF (w155 hw) F.2.1 d_ecap_1
  have H3 : Hr x b_ecap Z EL1 0 0 h0 [] 5 #[.val (.ref s), .val (.int (Int32.ofNat m)), .unset] [.int (Int32.ofNat (bs.length + r))] := H2.arraylength F.2.2.2.2 d_ecap_4 (hn := (by simp))
  have H4 : Hr x b_ecap Z EL1 0 0 h0 [] 6 #[.val (.ref s), .val (.int (Int32.ofNat m)), .unset] [.ref s, .int (Int32.ofNat (bs.length + r))] := H3.aloadN d_ecap_5
  have H5 : Hr x b_ecap Z EL1 0 0 h0 [] 9 #[.val (.ref s), .val (.int (Int32.ofNat m)), .unset] [.int (0 : Int32), .int (Int32.ofNat (bs.length + r))] := H4.getF (w157 hw) F.2.2.1 d_ecap_6
  have H6 : Hr x b_ecap Z EL1 0 0 h0 [] 10 #[.val (.ref s), .val (.int (Int32.ofNat m)), .unset] [.int (Int32.ofNat (bs.length + r))] := H5.ishr d_ecap_9 (hv := (shr0 _))
  have H7 : Hr x b_ecap Z EL1 0 0 h0 [] 11 #[.val (.ref s), .val (.int (Int32.ofNat m)), .val (.int (Int32.ofNat (bs.length + r)))] [] := H6.istoreN d_ecap_10
  have H8 : Hr x b_ecap Z EL1 0 0 h0 [] 12 #[.val (.ref s), .val (.int (Int32.ofNat m)), .val (.int (Int32.ofNat (bs.length + r)))] [.int (Int32.ofNat m)] := H7.iloadN d_ecap_11
  have H9 : Hr x b_ecap Z EL1 0 0 h0 [] 13 #[.val (.ref s), .val (.int (Int32.ofNat m)), .val (.int (Int32.ofNat (bs.length + r)))] [.int (Int32.ofNat (bs.length + r)), .int (Int32.ofNat m)] := H8.iloadN d_ecap_12
  have H10 : Hr x b_ecap Z EL1 0 0 h0 [] 14 #[.val (.ref s), .val (.int (Int32.ofNat m)), .val (.int (Int32.ofNat (bs.length + r)))] [.int ((Int32.ofNat m) - (Int32.ofNat (bs.length + r)))] := H9.isub d_ecap_13
  have H11 : Hr x b_ecap Z EL1 0 0 h0 [] 38 #[.val (.ref s), .val (.int (Int32.ofNat m)), .val (.int (Int32.ofNat (bs.length + r)))] [] := H10.ifT d_ecap_14 (XT.i0_le_t hle)
  exact H11.finN d_ecap_38 rfl (by decide) (by decide) sub0 ⟨rfl, rfl, rfl⟩
def b_infl : Bx := (({ frames := 1, cells := 0, slots := 0, locals := 13 } : Room), (⟨"java/lang/AbstractStringBuilder", "inflateIfNeededFor", "(Ljava/lang/String;)V"⟩ : MethodName), jdk_68_method_71_code, 2, (Option.none : Option Jvm.ClassFile.FieldType))
theorem ef_infl (s a : Addr) (mI : MethodId) : entryFrame mI #[.ref s, .ref a] 2 = mkF mI 0 #[.val (.ref s), .val (.ref a)] [] := by first | (simp [entryFrame, mkF, argsToLocals, Value.category]; done) | rfl
theorem pd_infl : parseMethodDescriptor "(Ljava/lang/String;)V" = some ⟨[(.object "java/lang/String")], none⟩ := by decide +kernel
set_option maxRecDepth 65536 in
set_option maxHeartbeats 4000000 in
theorem ct_infl {a0 : Array Value} {Z : State} (hw : ∀ d ∈ tables_1, d.before a0 Z = true) (l : Launch) (nar kn : Bool) (hnr : nar = false) (h0 : Heap) (s t a u : Addr) (bs ds : List Int32) (r : Nat) (F : Sbd Z h0 s t bs r) (G : Str Z h0 a u ds) (cz : Int32) (O : Sta Z Z.heap "java/lang/String" "COMPACT_STRINGS" "Z" (.int cz)) (hcz : ¬ cz = 0) :
    Ct l Z EL1 (⟨"java/lang/AbstractStringBuilder", "inflateIfNeededFor", "(Ljava/lang/String;)V"⟩ : MethodName) jdk_68_method_71_code 2 (Option.none : Option Jvm.ClassFile.FieldType) ({ frames := 1, cells := 0, slots := 0, locals := 13 } : Room) #[.ref s, .ref a] h0 [] nar kn (fun v h sn => v = none ∧ sn = [] ∧ h = h0) := by
  refine Ct.intro (plainFor_of_name pn_java_lang_AbstractStringBuilder) (ew hw) (ef_infl s a) ?_
  intro x hl hn0 hkn hsf hh H0
  have hnar : x.nar = false := hn0.trans hnr
  have H0 : Hr x b_infl Z EL1 0 0 h0 [] 0 #[.val (.ref s), .val (.ref a)] [] := H0
  have H1 : Hr x b_infl Z EL1 0 0 h0 [] 3 #[.val (.ref s), .val (.ref a)] [.int cz] := H0.getS (w154 hw) (O.ext H0.old) d_infl_0
  have H2 : Hr x b_infl Z EL1 0 0 h0 [] 6 #[.val (.ref s), .val (.ref a)] [] := H1.ifF d_infl_3 (XT.i0_eq_f hcz)
  have H3 : Hr x b_infl Z EL1 0 0 h0 [] 7 #[.val (.ref s), .val (.ref a)] [.ref s] := H2.aloadN d_infl_6
  have H4 : Hr x b_infl Z EL1 0 0 h0 [] 10 #[.val (.ref s), .val (.ref a)] [.int (0 : Int32)] := H3.getF (w157 hw) F.2.2.1 d_infl_7
  have H5 : Hr x b_infl Z EL1 0 0 h0 [] 11 #[.val (.ref s), .val (.ref a)] [.ref a, .int (0 : Int32)] := H4.aloadN d_infl_10
  obtain ⟨_, h1, _, ⟨rfl, rfl, e1⟩, K1, H6⟩ := H5.callV (argsL := []) (rest := [.int (0 : Int32)]) (Wr := 1) (a := a) (ct_scod hw x.l x.nar x.kn hnar h0 a u ds G cz O hcz) sub0 G.1 (w188 hw) (w71 hw) (w73 hw) (w73 hw) (w72 hw) (w7 hw) (w74 hw) d_infl_11 pd_scod rfl (hf := by first | decide | (simp [b_infl, Bx.R]; done) | (simp [b_infl, Bx.R]; omega)) (hl := by first | decide | (simp [b_infl, Bx.R]; done) | (simp [b_infl, Bx.R]; omega)) (hc := by first | decide | (simp [b_infl, Bx.R]; done) | (simp [b_infl, Bx.R]; omega)) (hs := by first | decide | (simp [b_infl, Bx.R]; done) | (simp [b_infl, Bx.R]; omega))
  rw [e1] at H6
  have H6 : Hr x b_infl Z EL1 0 0 h0 [] 14 #[.val (.ref s), .val (.ref a)] [.int (0 : Int32), .int (0 : Int32)] := H6
  have H7 : Hr x b_infl Z EL1 0 0 h0 [] 21 #[.val (.ref s), .val (.ref a)] [] := H6.icmpT d_infl_14 (XT.ii_eq_t rfl)
  exact H7.finN d_infl_21 rfl (by decide) (by decide) sub0 ⟨rfl, rfl, rfl⟩
def b_gbyt : Bx := (({ frames := 1, cells := 0, slots := 0, locals := 18 } : Room), (⟨"java/lang/String", "getBytes", "([BIB)V"⟩ : MethodName), jdk_42_method_147_code, 4, (Option.none : Option Jvm.ClassFile.FieldType))
theorem ef_gbyt (a d : Addr) (j : Nat) (mI : MethodId) : entryFrame mI #[.ref a, .ref d, .int (Int32.ofNat j), .int (0 : Int32)] 4 = mkF mI 0 #[.val (.ref a), .val (.ref d), .val (.int (Int32.ofNat j)), .val (.int (0 : Int32))] [] := by first | (simp [entryFrame, mkF, argsToLocals, Value.category]; done) | rfl
theorem pd_gbyt : parseMethodDescriptor "([BIB)V" = some ⟨[(.array .byte), .int, .byte], none⟩ := by decide +kernel
set_option maxRecDepth 65536 in
set_option maxHeartbeats 4000000 in
theorem ct_gbyt {a0 : Array Value} {Z : State} (hw : ∀ d ∈ tables_1, d.before a0 Z = true) (l : Launch) (nar kn : Bool) (hnr : nar = false) (h0 : Heap) (a u d : Addr) (j : Nat) (ds : List Int32) (ws : List Value) (G : Str Z h0 a u ds) (D : Ar Z h0 d .byte ws) (bd : BL ds) (bw : ∀ v ∈ ws, fits .byte v = true) (hj : j + ds.length ≤ ws.length) (cz : Int32) (O : Sta Z Z.heap "java/lang/String" "COMPACT_STRINGS" "Z" (.int cz)) (hcz : ¬ cz = 0) :
    Ct l Z EL1 (⟨"java/lang/String", "getBytes", "([BIB)V"⟩ : MethodName) jdk_42_method_147_code 4 (Option.none : Option Jvm.ClassFile.FieldType) ({ frames := 1, cells := 0, slots := 0, locals := 18 } : Room) #[.ref a, .ref d, .int (Int32.ofNat j), .int (0 : Int32)] h0 [d] nar kn (fun v h sn => v = none ∧ sn = [] ∧ Ar Z h d .byte (ws.take j ++ ((ds.map Value.int).drop 0).take ds.length ++ ws.drop (j + ds.length))) := by
  refine Ct.intro (plainFor_of_name pn_java_lang_String) (ew hw) (ef_gbyt a d j) ?_
  intro x hl hn0 hkn hsf hh H0
  have hnar : x.nar = false := hn0.trans hnr
  have H0 : Hr x b_gbyt Z EL1 0 0 h0 [d] 0 #[.val (.ref a), .val (.ref d), .val (.int (Int32.ofNat j)), .val (.int (0 : Int32))] [] := H0
  have H1 : Hr x b_gbyt Z EL1 0 0 h0 [d] 1 #[.val (.ref a), .val (.ref d), .val (.int (Int32.ofNat j)), .val (.int (0 : Int32))] [.ref a] := H0.aloadN d_gbyt_0
  obtain ⟨_, h1, _, ⟨rfl, rfl, e1⟩, K1, H2⟩ := H1.callV (argsL := []) (rest := []) (Wr := 0) (a := a) (ct_scod hw x.l x.nar x.kn hnar h0 a u ds G cz O hcz) sub0 G.1 (w70 hw) (w71 hw) (w73 hw) (w73 hw) (w72 hw) (w7 hw) (w74 hw) d_gbyt_1 pd_scod rfl (hf := by first | decide | (simp [b_gbyt, Bx.R]; done) | (simp [b_gbyt, Bx.R]; omega)) (hl := by first | decide | (simp [b_gbyt, Bx.R]; done) | (simp [b_gbyt, Bx.R]; omega)) (hc := by first | decide | (simp [b_gbyt, Bx.R]; done) | (simp [b_gbyt, Bx.R]; omega)) (hs := by first | decide | (simp [b_gbyt, Bx.R]; done) | (simp [b_gbyt, Bx.R]; omega))
  rw [e1] at H2
  have H2 : Hr x b_gbyt Z EL1 0 0 h0 [d] 4 #[.val (.ref a), .val (.ref d), .val (.int (Int32.ofNat j)), .val (.int (0 : Int32))] [.int (0 : Int32)] := H2
  have H3 : Hr x b_gbyt Z EL1 0 0 h0 [d] 5 #[.val (.ref a), .val (.ref d), .val (.int (Int32.ofNat j)), .val (.int (0 : Int32))] [.int (0 : Int32), .int (0 : Int32)] := H2.iloadN d_gbyt_4
  have H4 : Hr x b_gbyt Z EL1 0 0 h0 [d] 8 #[.val (.ref a), .val (.ref d), .val (.int (Int32.ofNat j)), .val (.int (0 : Int32))] [] := H3.icmpF d_gbyt_5 (XT.ii_ne_f rfl)
  have H5 : Hr x b_gbyt Z EL1 0 0 h0 [d] 9 #[.val (.ref a), .val (.ref d), .val (.int (Int32.ofNat j)), .val (.int (0 : Int32))] [.ref a] := H4.aloadN d_gbyt_8
  have H6 : Hr x b_gbyt Z EL1 0 0 h0 [d] 12 #[.val (.ref a), .val (.ref d), .val (.int (Int32.ofNat j)), .val (.int (0 : Int32))] [.ref u] := H5.getF (w32 hw) G.2.2.1 d_gbyt_9
  have H7 : Hr x b_gbyt Z EL1 0 0 h0 [d] 13 #[.val (.ref a), .val (.ref d), .val (.int (Int32.ofNat j)), .val (.int (0 : Int32))] [.int (0 : Int32), .ref u] := H6.iconst d_gbyt_12
  have H8 : Hr x b_gbyt Z EL1 0 0 h0 [d] 14 #[.val (.ref a), .val (.ref d), .val (.int (Int32.ofNat j)), .val (.int (0 : Int32))] [.ref d, .int (0 : Int32), .ref u] := H7.aloadN d_gbyt_13
  have H9 : Hr x b_gbyt Z EL1 0 0 h0 [d] 15 #[.val (.ref a), .val (.ref d), .val (.int (Int32.ofNat j)), .val (.int (0 : Int32))] [.int (Int32.ofNat j), .ref d, .int (0 : Int32), .ref u] := H8.iloadN d_gbyt_14
  have H10 : Hr x b_gbyt Z EL1 0 0 h0 [d] 16 #[.val (.ref a), .val (.ref d), .val (.int (Int32.ofNat j)), .val (.int (0 : Int32))] [.int (0 : Int32), .int (Int32.ofNat j), .ref d, .int (0 : Int32), .ref u] := H9.iloadN d_gbyt_15
  have H11 : Hr x b_gbyt Z EL1 0 0 h0 [d] 17 #[.val (.ref a), .val (.ref d), .val (.int (Int32.ofNat j)), .val (.int (0 : Int32))] [.int (Int32.ofNat j), .ref d, .int (0 : Int32), .ref u] := H10.ishl d_gbyt_16 (hv := (shl0 _))
  have H12 : Hr x b_gbyt Z EL1 0 0 h0 [d] 18 #[.val (.ref a), .val (.ref d), .val (.int (Int32.ofNat j)), .val (.int (0 : Int32))] [.ref a, .int (Int32.ofNat j), .ref d, .int (0 : Int32), .ref u] := H11.aloadN d_gbyt_17
  have H13 : Hr x b_gbyt Z EL1 0 0 h0 [d] 21 #[.val (.ref a), .val (.ref d), .val (.int (Int32.ofNat j)), .val (.int (0 : Int32))] [.ref u, .int (Int32.ofNat j), .ref d, .int (0 : Int32), .ref u] := H12.getF (w32 hw) G.2.2.1 d_gbyt_18
  have H14 : Hr x b_gbyt Z EL1 0 0 h0 [d] 22 #[.val (.ref a), .val (.ref d), .val (.int (Int32.ofNat j)), .val (.int (0 : Int32))] [.int (Int32.ofNat ds.length), .int (Int32.ofNat j), .ref d, .int (0 : Int32), .ref u] := H13.arraylength G.2.2.2 d_gbyt_21 (hn := (by simp))
  obtain ⟨h2, K2, D2, H15⟩ := H14.arraycopy (i := 0) (j := j) (n := ds.length) (Wr := 0) (ty := .byte) (by simp) (w194 hw) (w197 hw) (w195 hw) (w196 hw) G.2.2.2 D (by decide) bd.vals bw (by simp) hj d_gbyt_22 (hf := by decide) (hl := by decide)
  have H15 : Hr x b_gbyt Z EL1 0 0 h2 [d] 25 #[.val (.ref a), .val (.ref d), .val (.int (Int32.ofNat j)), .val (.int (0 : Int32))] [] := H15
  have H16 : Hr x b_gbyt Z EL1 0 0 h2 [d] 43 #[.val (.ref a), .val (.ref d), .val (.int (Int32.ofNat j)), .val (.int (0 : Int32))] [] := H15.goto d_gbyt_25
  exact H16.finN d_gbyt_43 rfl (by decide) (by decide) sub0 ⟨rfl, rfl, D2⟩
def b_psta : Bx := (({ frames := 2, cells := 0, slots := 0, locals := 33 } : Room), (⟨"java/lang/AbstractStringBuilder", "putStringAt", "(ILjava/lang/String;)V"⟩ : MethodName), jdk_68_method_73_code, 3, (Option.none : Option Jvm.ClassFile.FieldType))
theorem ef_psta (s : Addr) (bs : List Int32) (a : Addr) (mI : MethodId) : entryFrame mI #[.ref s, .int (Int32.ofNat bs.length), .ref a] 3 = mkF mI 0 #[.val (.ref s), .val (.int (Int32.ofNat bs.length)), .val (.ref a)] [] := by first | (simp [entryFrame, mkF, argsToLocals, Value.category]; done) | rfl
theorem pd_psta : parseMethodDescriptor "(ILjava/lang/String;)V" = some ⟨[.int, (.object "java/lang/String")], none⟩ := by decide +kernel
set_option maxRecDepth 65536 in
set_option maxHeartbeats 4000000 in
theorem ct_psta {a0 : Array Value} {Z : State} (hw : ∀ d ∈ tables_1, d.before a0 Z = true) (l : Launch) (nar kn : Bool) (hnr : nar = false) (h0 : Heap) (s t a u : Addr) (bs ds : List Int32) (r : Nat) (F : Sbd Z h0 s t bs r) (G : Str Z h0 a u ds) (bb : BL bs) (bd : BL ds) (hr : ds.length ≤ r) (hst : s ≠ t) (cz : Int32) (O : Sta Z Z.heap "java/lang/String" "COMPACT_STRINGS" "Z" (.int cz)) (hcz : ¬ cz = 0) :
    Ct l Z EL1 (⟨"java/lang/AbstractStringBuilder", "putStringAt", "(ILjava/lang/String;)V"⟩ : MethodName) jdk_68_method_73_code 3 (Option.none : Option Jvm.ClassFile.FieldType) ({ frames := 2, cells := 0, slots := 0, locals := 33 } : Room) #[.ref s, .int (Int32.ofNat bs.length), .ref a] h0 [t] nar kn (fun v h sn => v = none ∧ sn = [] ∧ Ar Z h t .byte (((bs ++ ds) ++ List.replicate (r - ds.length) 0).map Value.int)) := by
  refine Ct.intro (plainFor_of_name pn_java_lang_AbstractStringBuilder) (ew hw) (ef_psta s bs a) ?_
  intro x hl hn0 hkn hsf hh H0
  have hnar : x.nar = false := hn0.trans hnr
  have H0 : Hr x b_psta Z EL1 0 0 h0 [t] 0 #[.val (.ref s), .val (.int (Int32.ofNat bs.length)), .val (.ref a)] [] := H0
  have H1 : Hr x b_psta Z EL1 0 0 h0 [t] 1 #[.val (.ref s), .val (.int (Int32.ofNat bs.length)), .val (.ref a)] [.ref s] := H0.aloadN d_psta_0
  have H2 : Hr x b_psta Z EL1 0 0 h0 [t] 2 #[.val (.ref s), .val (.int (Int32.ofNat bs.length)), .val (.ref a)] [.ref a, .ref s] := H1.aloadN d_psta_1
  obtain ⟨_, h1, _, ⟨rfl, rfl, e1⟩, K1, H3⟩ := H2.callP (argsL := [.ref a]) (rest := []) (Wr := 0) (a := s) (ct_infl hw x.l x.nar x.kn hnar h0 s t a u bs ds r F G cz O hcz) sub0 F.1 (w183 hw) (w184 hw) (w176 hw) (w185 hw) (w151 hw) (w187 hw) d_psta_2 pd_infl rfl (hf := by first | decide | (simp [b_psta, Bx.R]; done) | (simp [b_psta, Bx.R]; omega)) (hl := by first | decide | (simp [b_psta, Bx.R]; done) | (simp [b_psta, Bx.R]; omega)) (hc := by first | decide | (simp [b_psta, Bx.R]; done) | (simp [b_psta, Bx.R]; omega)) (hs := by first | decide | (simp [b_psta, Bx.R]; done) | (simp [b_psta, Bx.R]; omega))
  rw [e1] at H3
  have H3 : Hr x b_psta Z EL1 0 0 h0 [t] 5 #[.val (.ref s), .val (.int (Int32.ofNat bs.length)), .val (.ref a)] [] := H3
  have H4 : Hr x b_psta Z EL1 0 0 h0 [t] 6 #[.val (.ref s), .val (.int (Int32.ofNat bs.length)), .val (.ref a)] [.ref a] := H3.aloadN d_psta_5
  have H5 : Hr x b_psta Z EL1 0 0 h0 [t] 7 #[.val (.ref s), .val (.int (Int32.ofNat bs.length)), .val (.ref a)] [.ref s, .ref a] := H4.aloadN d_psta_6
  have H6 : Hr x b_psta Z EL1 0 0 h0 [t] 10 #[.val (.ref s), .val (.int (Int32.ofNat bs.length)), .val (.ref a)] [.ref t, .ref a] := H5.getF (w155 hw) F.2.1 d_psta_7
  have H7 : Hr x b_psta Z EL1 0 0 h0 [t] 11 #[.val (.ref s), .val (.int (Int32.ofNat bs.length)), .val (.ref a)] [.int (Int32.ofNat bs.length), .ref t, .ref a] := H6.iloadN d_psta_10
  have H8 : Hr x b_psta Z EL1 0 0 h0 [t] 12 #[.val (.ref s), .val (.int (Int32.ofNat bs.length)), .val (.ref a)] [.ref s, .int (Int32.ofNat bs.length), .ref t, .ref a] := H7.aloadN d_psta_11
  have H9 : Hr x b_psta Z EL1 0 0 h0 [t] 15 #[.val (.ref s), .val (.int (Int32.ofNat bs.length)), .val (.ref a)] [.int (0 : Int32), .int (Int32.ofNat bs.length), .ref t, .ref a] := H8.getF (w157 hw) F.2.2.1 d_psta_12
  obtain ⟨_, h2, _, ⟨rfl, rfl, D2⟩, K2, H10⟩ := H9.callV (argsL := [.ref t, .int (Int32.ofNat bs.length), .int (0 : Int32)]) (rest := []) (Wr := 0) (a := a) (ct_gbyt hw x.l x.nar x.kn hnar h0 a u t bs.length ds _ G F.2.2.2.2 bd (bb.app (BL.rep r)).vals (by simp; omega) cz O hcz) (sub1 (by simp)) G.1 (w189 hw) (w190 hw) (w192 hw) (w192 hw) (w191 hw) (w7 hw) (w193 hw) d_psta_15 pd_gbyt rfl (hf := by first | decide | (simp [b_psta, Bx.R]; done) | (simp [b_psta, Bx.R]; omega)) (hl := by first | decide | (simp [b_psta, Bx.R]; done) | (simp [b_psta, Bx.R]; omega)) (hc := by first | decide | (simp [b_psta, Bx.R]; done) | (simp [b_psta, Bx.R]; omega)) (hs := by first | decide | (simp [b_psta, Bx.R]; done) | (simp [b_psta, Bx.R]; omega))
  have H10 : Hr x b_psta Z EL1 0 0 h2 [t] 18 #[.val (.ref s), .val (.int (Int32.ofNat bs.length)), .val (.ref a)] [] := H10
  rw [put_next hr] at D2
  exact H10.finN d_psta_18 rfl (by decide) (by decide) sub0 ⟨rfl, rfl, D2⟩
def b_aapp : Bx := (({ frames := 3, cells := 0, slots := 0, locals := 47 } : Room), (⟨"java/lang/AbstractStringBuilder", "append", "(Ljava/lang/String;)Ljava/lang/AbstractStringBuilder;"⟩ : MethodName), jdk_68_method_22_code, 3, (Option.some (Jvm.ClassFile.FieldType.object "java/lang/AbstractStringBuilder")))
theorem ef_aapp (s a : Addr) (mI : MethodId) : entryFrame mI #[.ref s, .ref a] 3 = mkF mI 0 #[.val (.ref s), .val (.ref a), .unset] [] := by first | (simp [entryFrame, mkF, argsToLocals, Value.category]; done) | rfl
theorem pd_aapp : parseMethodDescriptor "(Ljava/lang/String;)Ljava/lang/AbstractStringBuilder;" = some ⟨[(.object "java/lang/String")], some (.object "java/lang/AbstractStringBuilder")⟩ := by decide +kernel
set_option maxRecDepth 65536 in
set_option maxHeartbeats 4000000 in
theorem ct_aapp {a0 : Array Value} {Z : State} (hw : ∀ d ∈ tables_1, d.before a0 Z = true) (l : Launch) (nar kn : Bool) (hnr : nar = false) (h0 : Heap) (s t a u : Addr) (bs ds : List Int32) (r : Nat) (F : Sbd Z h0 s t bs r) (G : Str Z h0 a u ds) (bb : BL bs) (bd : BL ds) (hr : ds.length ≤ r) (hst : s ≠ t) (cz : Int32) (O : Sta Z Z.heap "java/lang/String" "COMPACT_STRINGS" "Z" (.int cz)) (hcz : ¬ cz = 0) :
    Ct l Z EL1 (⟨"java/lang/AbstractStringBuilder", "append", "(Ljava/lang/String;)Ljava/lang/AbstractStringBuilder;"⟩ : MethodName) jdk_68_method_22_code 3 (Option.some (Jvm.ClassFile.FieldType.object "java/lang/AbstractStringBuilder")) ({ frames := 3, cells := 0, slots := 0, locals := 47 } : Room) #[.ref s, .ref a] h0 [s, t] nar kn (fun v h sn => v = some (.ref s) ∧ sn = [] ∧ Sbd Z h s t (bs ++ ds) (r - ds.length)) := by
  refine Ct.intro (plainFor_of_name pn_java_lang_AbstractStringBuilder) (ew hw) (ef_aapp s a) ?_
  intro x hl hn0 hkn hsf hh H0
  have hnar : x.nar = false := hn0.trans hnr
  have H0 : Hr x b_aapp Z EL1 0 0 h0 [s, t] 0 #[.val (.ref s), .val (.ref a), .unset] [] := H0
  have n01 := slot_ne (a0 := a0) (C := "java/lang/StringBuilder") (O := "java/lang/AbstractStringBuilder") (O' := "java/lang/AbstractStringBuilder") (n := "value") (n' := "coder") (Or.inl (w156 hw)) (Or.inl (w158 hw)) (by decide) (t := .array .byte) (t' := .byte) (by decide) (by decide)
  have n02 := slot_ne (a0 := a0) (C := "java/lang/StringBuilder") (O := "java/lang/AbstractStringBuilder") (O' := "java/lang/AbstractStringBuilder") (n := "value") (n' := "count") (Or.inl (w156 hw)) (Or.inl (w172 hw)) (by decide) (t := .array .byte) (t' := .int) (by decide) (by decide)
  have n12 := slot_ne (a0 := a0) (C := "java/lang/StringBuilder") (O := "java/lang/AbstractStringBuilder") (O' := "java/lang/AbstractStringBuilder") (n := "coder") (n' := "count") (Or.inl (w158 hw)) (Or.inl (w172 hw)) (by decide) (t := .byte) (t' := .int) (by decide) (by decide)
  have hl := F.2.2.2.2.len
  rw [List.length_map, List.length_append, List.length_replicate] at hl
  have H1 : Hr x b_aapp Z EL1 0 0 h0 [s, t] 1 #[.val (.ref s), .val (.ref a), .unset] [.ref a] := H0.aloadN d_aapp_0
  have H2 : Hr x b_aapp Z EL1 0 0 h0 [s, t] 9 #[.val (.ref s), .val (.ref a), .unset] [] := H1.ifnonnullT d_aapp_1
  have H3 : Hr x b_aapp Z EL1 0 0 h0 [s, t] 10 #[.val (.ref s), .val (.ref a), .unset] [.ref a] := H2.aloadN d_aapp_9
  obtain ⟨_, h1, _, ⟨rfl, rfl, e1⟩, K1, H4⟩ := H3.callV (argsL := []) (rest := []) (Wr := 0) (a := a) (ct_slen hw x.l x.nar x.kn hnar h0 a u ds G cz O hcz) sub0 G.1 (w170 hw) (w66 hw) (w68 hw) (w68 hw) (w67 hw) (w7 hw) (w69 hw) d_aapp_10 pd_slen rfl (hf := by first | decide | (simp [b_aapp, Bx.R]; done) | (simp [b_aapp, Bx.R]; omega)) (hl := by first | decide | (simp [b_aapp, Bx.R]; done) | (simp [b_aapp, Bx.R]; omega)) (hc := by first | decide | (simp [b_aapp, Bx.R]; done) | (simp [b_aapp, Bx.R]; omega)) (hs := by first | decide | (simp [b_aapp, Bx.R]; done) | (simp [b_aapp, Bx.R]; omega))
  rw [e1] at H4
  have H4 : Hr x b_aapp Z EL1 0 0 h0 [s, t] 13 #[.val (.ref s), .val (.ref a), .unset] [.int (Int32.ofNat ds.length)] := H4
  have H5 : Hr x b_aapp Z EL1 0 0 h0 [s, t] 14 #[.val (.ref s), .val (.ref a), .val (.int (Int32.ofNat ds.length))] [] := H4.istoreN d_aapp_13
  have H6 : Hr x b_aapp Z EL1 0 0 h0 [s, t] 15 #[.val (.ref s), .val (.ref a), .val (.int (Int32.ofNat ds.length))] [.ref s] := H5.aloadN d_aapp_14
  have H7 : Hr x b_aapp Z EL1 0 0 h0 [s, t] 16 #[.val (.ref s), .val (.ref a), .val (.int (Int32.ofNat ds.length))] [.ref s, .ref s] := H6.aloadN d_aapp_15
  have H8 : Hr x b_aapp Z EL1 0 0 h0 [s, t] 19 #[.val (.ref s), .val (.ref a), .val (.int (Int32.ofNat ds.length))] [.int (Int32.ofNat bs.length), .ref s] := H7.getF (w171 hw) F.2.2.2.1 d_aapp_16
  have H9 : Hr x b_aapp Z EL1 0 0 h0 [s, t] 20 #[.val (.ref s), .val (.ref a), .val (.int (Int32.ofNat ds.length))] [.int (Int32.ofNat ds.length), .int (Int32.ofNat bs.length), .ref s] := H8.iloadN d_aapp_19
  have H10 : Hr x b_aapp Z EL1 0 0 h0 [s, t] 21 #[.val (.ref s), .val (.ref a), .val (.int (Int32.ofNat ds.length))] [.int (Int32.ofNat (bs.length + ds.length)), .ref s] := H9.iadd d_aapp_20 (hv := (ofNat_add _ _))
  obtain ⟨_, h2, _, ⟨rfl, rfl, e2⟩, K2, H11⟩ := H10.callP (argsL := [.int (Int32.ofNat (bs.length + ds.length))]) (rest := []) (Wr := 0) (a := s) (ct_ecap hw x.l x.nar x.kn hnar h0 s t (bs.length + ds.length) bs r F (by omega)) sub0 F.1 (w173 hw) (w174 hw) (w176 hw) (w175 hw) (w151 hw) (w177 hw) d_aapp_21 pd_ecap rfl (hf := by first | decide | (simp [b_aapp, Bx.R]; done) | (simp [b_aapp, Bx.R]; omega)) (hl := by first | decide | (simp [b_aapp, Bx.R]; done) | (simp [b_aapp, Bx.R]; omega)) (hc := by first | decide | (simp [b_aapp, Bx.R]; done) | (simp [b_aapp, Bx.R]; omega)) (hs := by first | decide | (simp [b_aapp, Bx.R]; done) | (simp [b_aapp, Bx.R]; omega))
  rw [e2] at H11
  have H11 : Hr x b_aapp Z EL1 0 0 h0 [s, t] 24 #[.val (.ref s), .val (.ref a), .val (.int (Int32.ofNat ds.length))] [] := H11
  have H12 : Hr x b_aapp Z EL1 0 0 h0 [s, t] 25 #[.val (.ref s), .val (.ref a), .val (.int (Int32.ofNat ds.length))] [.ref s] := H11.aloadN d_aapp_24
  have H13 : Hr x b_aapp Z EL1 0 0 h0 [s, t] 26 #[.val (.ref s), .val (.ref a), .val (.int (Int32.ofNat ds.length))] [.ref s, .ref s] := H12.aloadN d_aapp_25
  have H14 : Hr x b_aapp Z EL1 0 0 h0 [s, t] 29 #[.val (.ref s), .val (.ref a), .val (.int (Int32.ofNat ds.length))] [.int (Int32.ofNat bs.length), .ref s] := H13.getF (w171 hw) F.2.2.2.1 d_aapp_26
  have H15 : Hr x b_aapp Z EL1 0 0 h0 [s, t] 30 #[.val (.ref s), .val (.ref a), .val (.int (Int32.ofNat ds.length))] [.ref a, .int (Int32.ofNat bs.length), .ref s] := H14.aloadN d_aapp_29
  obtain ⟨_, h3, _, ⟨rfl, rfl, D3⟩, K3, H16⟩ := H15.callP (argsL := [.int (Int32.ofNat bs.length), .ref a]) (rest := []) (Wr := 0) (a := s) (ct_psta hw x.l x.nar x.kn hnar h0 s t a u bs ds r F G bb bd hr hst cz O hcz) (sub1 (by simp)) F.1 (w178 hw) (w179 hw) (w176 hw) (w180 hw) (w151 hw) (w182 hw) d_aapp_30 pd_psta rfl (hf := by first | decide | (simp [b_aapp, Bx.R]; done) | (simp [b_aapp, Bx.R]; omega)) (hl := by first | decide | (simp [b_aapp, Bx.R]; done) | (simp [b_aapp, Bx.R]; omega)) (hc := by first | decide | (simp [b_aapp, Bx.R]; done) | (simp [b_aapp, Bx.R]; omega)) (hs := by first | decide | (simp [b_aapp, Bx.R]; done) | (simp [b_aapp, Bx.R]; omega))
  have H16 : Hr x b_aapp Z EL1 0 0 h3 [s, t] 33 #[.val (.ref s), .val (.ref a), .val (.int (Int32.ofNat ds.length))] [] := H16
  have q3 : s ∉ [t] := ninS hst nin0
  have H17 : Hr x b_aapp Z EL1 0 0 h3 [s, t] 34 #[.val (.ref s), .val (.ref a), .val (.int (Int32.ofNat ds.length))] [.ref s] := H16.aloadN d_aapp_33
  have H18 : Hr x b_aapp Z EL1 0 0 h3 [s, t] 35 #[.val (.ref s), .val (.ref a), .val (.int (Int32.ofNat ds.length))] [.ref s, .ref s] := H17.dup d_aapp_34
  have H19 : Hr x b_aapp Z EL1 0 0 h3 [s, t] 38 #[.val (.ref s), .val (.ref a), .val (.int (Int32.ofNat ds.length))] [.int (Int32.ofNat bs.length), .ref s] := H18.getF (w171 hw) (F.2.2.2.1.keep K3 q3) d_aapp_35
  have H20 : Hr x b_aapp Z EL1 0 0 h3 [s, t] 39 #[.val (.ref s), .val (.ref a), .val (.int (Int32.ofNat ds.length))] [.int (Int32.ofNat ds.length), .int (Int32.ofNat bs.length), .ref s] := H19.iloadN d_aapp_38
  have H21 : Hr x b_aapp Z EL1 0 0 h3 [s, t] 40 #[.val (.ref s), .val (.ref a), .val (.int (Int32.ofNat ds.length))] [.int (Int32.ofNat (bs ++ ds).length), .ref s] := H20.iadd d_aapp_39 (hv := (by rw [ofNat_add, List.length_append]))
  obtain ⟨h4, W4, H22⟩ := H21.putF (by simp) (w171 hw) (F.2.2.2.1.keep K3 q3) (F.1.keep K3) (Or.inl (w172 hw)) (w142 hw) d_aapp_40 (ty := .int)
  have H22 : Hr x b_aapp Z EL1 0 0 h4 [s, t] 43 #[.val (.ref s), .val (.ref a), .val (.int (Int32.ofNat ds.length))] [] := H22
  have H23 : Hr x b_aapp Z EL1 0 0 h4 [s, t] 44 #[.val (.ref s), .val (.ref a), .val (.int (Int32.ofNat ds.length))] [.ref s] := H22.aloadN d_aapp_43
  exact H23.finA d_aapp_44 ⟨rfl, rfl, (F.1.keep K3).wr W4, (F.2.1.keep K3 q3).other W4 (Or.inr n02), (F.2.2.1.keep K3 q3).other W4 (Or.inr n12), Fld.same W4 (F.2.2.2.1.keep K3 q3), D3.other W4 (Ne.symm hst)⟩ sub0
def b_sapp : Bx := (({ frames := 4, cells := 0, slots := 0, locals := 61 } : Room), (⟨"java/lang/StringBuilder", "append", "(Ljava/lang/String;)Ljava/lang/StringBuilder;"⟩ : MethodName), jdk_67_method_7_code, 2, (Option.some (Jvm.ClassFile.FieldType.object "java/lang/StringBuilder")))
theorem ef_sapp (s a : Addr) (mI : MethodId) : entryFrame mI #[.ref s, .ref a] 2 = mkF mI 0 #[.val (.ref s), .val (.ref a)] [] := by first | (simp [entryFrame, mkF, argsToLocals, Value.category]; done) | rfl
theorem pd_sapp : parseMethodDescriptor "(Ljava/lang/String;)Ljava/lang/StringBuilder;" = some ⟨[(.object "java/lang/String")], some (.object "java/lang/StringBuilder")⟩ := by decide +kernel
set_option maxRecDepth 65536 in
set_option maxHeartbeats 4000000 in
theorem ct_sapp {a0 : Array Value} {Z : State} (hw : ∀ d ∈ tables_1, d.before a0 Z = true) (l : Launch) (nar kn : Bool) (hnr : nar = false) (h0 : Heap) (s t a u : Addr) (bs ds : List Int32) (r : Nat) (F : Sbd Z h0 s t bs r) (G : Str Z h0 a u ds) (bb : BL bs) (bd : BL ds) (hr : ds.length ≤ r) (hst : s ≠ t) (cz : Int32) (O : Sta Z Z.heap "java/lang/String" "COMPACT_STRINGS" "Z" (.int cz)) (hcz : ¬ cz = 0) :
    Ct l Z EL1 (⟨"java/lang/StringBuilder", "append", "(Ljava/lang/String;)Ljava/lang/StringBuilder;"⟩ : MethodName) jdk_67_method_7_code 2 (Option.some (Jvm.ClassFile.FieldType.object "java/lang/StringBuilder")) ({ frames := 4, cells := 0, slots := 0, locals := 61 } : Room) #[.ref s, .ref a] h0 [s, t] nar kn (fun v h sn => v = some (.ref s) ∧ sn = [] ∧ Sbd Z h s t (bs ++ ds) (r - ds.length)) := by
  refine Ct.intro (plainFor_of_name pn_java_lang_StringBuilder) (ew hw) (ef_sapp s a) ?_
  intro x hl hn0 hkn hsf hh H0
  have hnar : x.nar = false := hn0.trans hnr
  have H0 : Hr x b_sapp Z EL1 0 0 h0 [s, t] 0 #[.val (.ref s), .val (.ref a)] [] := H0
  have H1 : Hr x b_sapp Z EL1 0 0 h0 [s, t] 1 #[.val (.ref s), .val (.ref a)] [.ref s] := H0.aloadN d_sapp_0
  have H2 : Hr x b_sapp Z EL1 0 0 h0 [s, t] 2 #[.val (.ref s), .val (.ref a)] [.ref a, .ref s] := H1.aloadN d_sapp_1
  obtain ⟨_, h1, _, ⟨rfl, rfl, F1⟩, K1, H3⟩ := H2.callSup (argsL := [.ref a]) (rest := []) (Wr := 0) (a := s) (ct_aapp hw x.l x.nar x.kn hnar h0 s t a u bs ds r F G bb bd hr hst cz O hcz) (fun z hz => hz) F.1 (w165 hw) (w166 hw) (w176 hw) (w167 hw) (w151 hw) (w169 hw) d_sapp_2 pd_aapp rfl (hf := by first | decide | (simp [b_sapp, Bx.R]; done) | (simp [b_sapp, Bx.R]; omega)) (hl := by first | decide | (simp [b_sapp, Bx.R]; done) | (simp [b_sapp, Bx.R]; omega)) (hc := by first | decide | (simp [b_sapp, Bx.R]; done) | (simp [b_sapp, Bx.R]; omega)) (hs := by first | decide | (simp [b_sapp, Bx.R]; done) | (simp [b_sapp, Bx.R]; omega))
  have H3 : Hr x b_sapp Z EL1 0 0 h1 [s, t] 5 #[.val (.ref s), .val (.ref a)] [.ref s] := H3
  have H4 : Hr x b_sapp Z EL1 0 0 h1 [s, t] 6 #[.val (.ref s), .val (.ref a)] [] := H3.pop d_sapp_5
  have H5 : Hr x b_sapp Z EL1 0 0 h1 [s, t] 7 #[.val (.ref s), .val (.ref a)] [.ref s] := H4.aloadN d_sapp_6
  exact H5.finA d_sapp_7 ⟨rfl, rfl, F1⟩ sub0
def b_gval : Bx := (({ frames := 0, cells := 0, slots := 0, locals := 0 } : Room), (⟨"java/lang/AbstractStringBuilder", "getValue", "()[B"⟩ : MethodName), jdk_68_method_64_code, 1, (Option.some (Jvm.ClassFile.FieldType.array Jvm.ClassFile.FieldType.byte)))
theorem ef_gval (s : Addr) (mI : MethodId) : entryFrame mI #[.ref s] 1 = mkF mI 0 #[.val (.ref s)] [] := by first | (simp [entryFrame, mkF, argsToLocals, Value.category]; done) | rfl
theorem pd_gval : parseMethodDescriptor "()[B" = some ⟨[], some (.array .byte)⟩ := by decide +kernel
set_option maxRecDepth 65536 in
set_option maxHeartbeats 4000000 in
theorem ct_gval {a0 : Array Value} {Z : State} (hw : ∀ d ∈ tables_1, d.before a0 Z = true) (l : Launch) (nar kn : Bool) (hnr : nar = false) (h0 : Heap) (s t : Addr) (bs : List Int32) (r : Nat) (F : Sbd Z h0 s t bs r) :
    Ct l Z EL1 (⟨"java/lang/AbstractStringBuilder", "getValue", "()[B"⟩ : MethodName) jdk_68_method_64_code 1 (Option.some (Jvm.ClassFile.FieldType.array Jvm.ClassFile.FieldType.byte)) ({ frames := 0, cells := 0, slots := 0, locals := 0 } : Room) #[.ref s] h0 [] nar kn (fun v h sn => v = some (.ref t) ∧ sn = [] ∧ h = h0) := by
  refine Ct.intro (plainFor_of_name pn_java_lang_AbstractStringBuilder) (ew hw) (ef_gval s) ?_
  intro x hl hn0 hkn hsf hh H0
  have hnar : x.nar = false := hn0.trans hnr
  have H0 : Hr x b_gval Z EL1 0 0 h0 [] 0 #[.val (.ref s)] [] := H0
  have H1 : Hr x b_gval Z EL1 0 0 h0 [] 1 #[.val (.ref s)] [.ref s] := H0.aloadN d_gval_0
  have H2 : Hr x b_gval Z EL1 0 0 h0 [] 4 #[.val (.ref s)] [.ref t] := H1.getF (w155 hw) F.2.1 d_gval_1
  exact H2.finA d_gval_4 ⟨rfl, rfl, rfl⟩ sub0
def b_alen : Bx := (({ frames := 0, cells := 0, slots := 0, locals := 0 } : Room), (⟨"java/lang/AbstractStringBuilder", "length", "()I"⟩ : MethodName), jdk_68_method_6_code, 1, (Option.some Jvm.ClassFile.FieldType.int))
theorem ef_alen (s : Addr) (mI : MethodId) : entryFrame mI #[.ref s] 1 = mkF mI 0 #[.val (.ref s)] [] := by first | (simp [entryFrame, mkF, argsToLocals, Value.category]; done) | rfl
theorem pd_alen : parseMethodDescriptor "()I" = some ⟨[], some .int⟩ := by decide +kernel
set_option maxRecDepth 65536 in
set_option maxHeartbeats 4000000 in
theorem ct_alen {a0 : Array Value} {Z : State} (hw : ∀ d ∈ tables_1, d.before a0 Z = true) (l : Launch) (nar kn : Bool) (hnr : nar = false) (h0 : Heap) (s t : Addr) (bs : List Int32) (r : Nat) (F : Sbd Z h0 s t bs r) :
    Ct l Z EL1 (⟨"java/lang/AbstractStringBuilder", "length", "()I"⟩ : MethodName) jdk_68_method_6_code 1 (Option.some Jvm.ClassFile.FieldType.int) ({ frames := 0, cells := 0, slots := 0, locals := 0 } : Room) #[.ref s] h0 [] nar kn (fun v h sn => v = some (.int (Int32.ofNat bs.length)) ∧ sn = [] ∧ h = h0) := by
  refine Ct.intro (plainFor_of_name pn_java_lang_AbstractStringBuilder) (ew hw) (ef_alen s) ?_
  intro x hl hn0 hkn hsf hh H0
  have hnar : x.nar = false := hn0.trans hnr
  have H0 : Hr x b_alen Z EL1 0 0 h0 [] 0 #[.val (.ref s)] [] := H0
  have H1 : Hr x b_alen Z EL1 0 0 h0 [] 1 #[.val (.ref s)] [.ref s] := H0.aloadN d_alen_0
  have H2 : Hr x b_alen Z EL1 0 0 h0 [] 4 #[.val (.ref s)] [.int (Int32.ofNat bs.length)] := H1.getF (w171 hw) F.2.2.2.1 d_alen_1
  exact H2.finI d_alen_4 ⟨rfl, rfl, rfl⟩ sub0
def b_blen : Bx := (({ frames := 1, cells := 0, slots := 0, locals := 12 } : Room), (⟨"java/lang/StringBuilder", "length", "()I"⟩ : MethodName), jdk_67_method_93_code, 1, (Option.some Jvm.ClassFile.FieldType.int))
theorem ef_blen (s : Addr) (mI : MethodId) : entryFrame mI #[.ref s] 1 = mkF mI 0 #[.val (.ref s)] [] := by first | (simp [entryFrame, mkF, argsToLocals, Value.category]; done) | rfl
theorem pd_blen : parseMethodDescriptor "()I" = some ⟨[], some .int⟩ := by decide +kernel
set_option maxRecDepth 65536 in
set_option maxHeartbeats 4000000 in
theorem ct_blen {a0 : Array Value} {Z : State} (hw : ∀ d ∈ tables_1, d.before a0 Z = true) (l : Launch) (nar kn : Bool) (hnr : nar = false) (h0 : Heap) (s t : Addr) (bs : List Int32) (r : Nat) (F : Sbd Z h0 s t bs r) :
    Ct l Z EL1 (⟨"java/lang/StringBuilder", "length", "()I"⟩ : MethodName) jdk_67_method_93_code 1 (Option.some Jvm.ClassFile.FieldType.int) ({ frames := 1, cells := 0, slots := 0, locals := 12 } : Room) #[.ref s] h0 [] nar kn (fun v h sn => v = some (.int (Int32.ofNat bs.length)) ∧ sn = [] ∧ h = h0) := by
  refine Ct.intro (plainFor_of_name pn_java_lang_StringBuilder) (ew hw) (ef_blen s) ?_
  intro x hl hn0 hkn hsf hh H0
  have hnar : x.nar = false := hn0.trans hnr
  have H0 : Hr x b_blen Z EL1 0 0 h0 [] 0 #[.val (.ref s)] [] := H0
  have H1 : Hr x b_blen Z EL1 0 0 h0 [] 1 #[.val (.ref s)] [.ref s] := H0.aloadN d_blen_0
  obtain ⟨_, h1, _, ⟨rfl, rfl, e1⟩, K1, H2⟩ := H1.callSup (argsL := []) (rest := []) (Wr := 0) (a := s) (ct_alen hw x.l x.nar x.kn hnar h0 s t bs r F) sub0 F.1 (w222 hw) (w218 hw) (w176 hw) (w167 hw) (w151 hw) (w223 hw) d_blen_1 pd_alen rfl (hf := by first | decide | (simp [b_blen, Bx.R]; done) | (simp [b_blen, Bx.R]; omega)) (hl := by first | decide | (simp [b_blen, Bx.R]; done) | (simp [b_blen, Bx.R]; omega)) (hc := by first | decide | (simp [b_blen, Bx.R]; done) | (simp [b_blen, Bx.R]; omega)) (hs := by first | decide | (simp [b_blen, Bx.R]; done) | (simp [b_blen, Bx.R]; omega))
  rw [e1] at H2
  have H2 : Hr x b_blen Z EL1 0 0 h0 [] 4 #[.val (.ref s)] [.int (Int32.ofNat bs.length)] := H2
  exact H2.finI d_blen_4 ⟨rfl, rfl, rfl⟩ sub0
def b_ail1 : Bx := (({ frames := 0, cells := 0, slots := 0, locals := 0 } : Room), (⟨"java/lang/AbstractStringBuilder", "isLatin1", "()Z"⟩ : MethodName), jdk_68_method_68_code, 1, (Option.some Jvm.ClassFile.FieldType.boolean))
theorem ef_ail1 (s : Addr) (mI : MethodId) : entryFrame mI #[.ref s] 1 = mkF mI 0 #[.val (.ref s)] [] := by first | (simp [entryFrame, mkF, argsToLocals, Value.category]; done) | rfl
theorem pd_ail1 : parseMethodDescriptor "()Z" = some ⟨[], some .boolean⟩ := by decide +kernel
set_option maxRecDepth 65536 in
set_option maxHeartbeats 4000000 in
theorem ct_ail1 {a0 : Array Value} {Z : State} (hw : ∀ d ∈ tables_1, d.before a0 Z = true) (l : Launch) (nar kn : Bool) (hnr : nar = false) (h0 : Heap) (s t : Addr) (bs : List Int32) (r : Nat) (F : Sbd Z h0 s t bs r) (cz : Int32) (O : Sta Z Z.heap "java/lang/String" "COMPACT_STRINGS" "Z" (.int cz)) (hcz : ¬ cz = 0) :
    Ct l Z EL1 (⟨"java/lang/AbstractStringBuilder", "isLatin1", "()Z"⟩ : MethodName) jdk_68_method_68_code 1 (Option.some Jvm.ClassFile.FieldType.boolean) ({ frames := 0, cells := 0, slots := 0, locals := 0 } : Room) #[.ref s] h0 [] nar kn (fun v h sn => v = some (.int 1) ∧ sn = [] ∧ h = h0) := by
  refine Ct.intro (plainFor_of_name pn_java_lang_AbstractStringBuilder) (ew hw) (ef_ail1 s) ?_
  intro x hl hn0 hkn hsf hh H0
  have hnar : x.nar = false := hn0.trans hnr
  have H0 : Hr x b_ail1 Z EL1 0 0 h0 [] 0 #[.val (.ref s)] [] := H0
  have H1 : Hr x b_ail1 Z EL1 0 0 h0 [] 3 #[.val (.ref s)] [.int cz] := H0.getS (w154 hw) (O.ext H0.old) d_ail1_0
  have H2 : Hr x b_ail1 Z EL1 0 0 h0 [] 6 #[.val (.ref s)] [] := H1.ifF d_ail1_3 (XT.i0_eq_f hcz)
  have H3 : Hr x b_ail1 Z EL1 0 0 h0 [] 7 #[.val (.ref s)] [.ref s] := H2.aloadN d_ail1_6
  have H4 : Hr x b_ail1 Z EL1 0 0 h0 [] 10 #[.val (.ref s)] [.int (0 : Int32)] := H3.getF (w157 hw) F.2.2.1 d_ail1_7
  have H5 : Hr x b_ail1 Z EL1 0 0 h0 [] 13 #[.val (.ref s)] [] := H4.ifF d_ail1_10 (XT.i0_ne_f rfl)
  have H6 : Hr x b_ail1 Z EL1 0 0 h0 [] 14 #[.val (.ref s)] [.int (1 : Int32)] := H5.iconst d_ail1_13
  have H7 : Hr x b_ail1 Z EL1 0 0 h0 [] 18 #[.val (.ref s)] [.int (1 : Int32)] := H6.goto d_ail1_14
  exact H7.finZ d_ail1_18 (t := .boolean) (by first | rfl | decide) ⟨rfl, rfl, rfl⟩ sub0
def b_mmin : Bx := (({ frames := 0, cells := 0, slots := 0, locals := 0 } : Room), (⟨"java/lang/Math", "min", "(II)I"⟩ : MethodName), jdk_29_method_69_code, 2, (Option.some Jvm.ClassFile.FieldType.int))
theorem ef_mmin (m n : Nat) (mI : MethodId) : entryFrame mI #[.int (Int32.ofNat m), .int (Int32.ofNat n)] 2 = mkF mI 0 #[.val (.int (Int32.ofNat m)), .val (.int (Int32.ofNat n))] [] := by first | (simp [entryFrame, mkF, argsToLocals, Value.category]; done) | rfl
theorem pf_mmin : plainFor (⟨"java/lang/Math", "min", "(II)I"⟩ : MethodName) = true := by decide +kernel
theorem pd_mmin : parseMethodDescriptor "(II)I" = some ⟨[.int, .int], some .int⟩ := by decide +kernel
set_option maxRecDepth 65536 in
set_option maxHeartbeats 4000000 in
theorem ct_mmin {a0 : Array Value} {Z : State} (hw : ∀ d ∈ tables_1, d.before a0 Z = true) (l : Launch) (nar kn : Bool) (hnr : nar = false) (h0 : Heap) (m n : Nat) (hmn : n ≤ m) (hm : m < 2147483648) :
    Ct l Z EL1 (⟨"java/lang/Math", "min", "(II)I"⟩ : MethodName) jdk_29_method_69_code 2 (Option.some Jvm.ClassFile.FieldType.int) ({ frames := 0, cells := 0, slots := 0, locals := 0 } : Room) #[.int (Int32.ofNat m), .int (Int32.ofNat n)] h0 [] nar kn (fun v h sn => v = some (.int (Int32.ofNat n)) ∧ sn = [] ∧ h = h0) := by
  refine Ct.intro pf_mmin (ew hw) (ef_mmin m n) ?_
  intro x hl hn0 hkn hsf hh H0
  have hnar : x.nar = false := hn0.trans hnr
  have H0 : Hr x b_mmin Z EL1 0 0 h0 [] 0 #[.val (.int (Int32.ofNat m)), .val (.int (Int32.ofNat n))] [] := H0
  have H1 : Hr x b_mmin Z EL1 0 0 h0 [] 1 #[.val (.int (Int32.ofNat m)), .val (.int (Int32.ofNat n))] [.int (Int32.ofNat m)] := H0.iloadN d_mmin_0
  have H2 : Hr x b_mmin Z EL1 0 0 h0 [] 2 #[.val (.int (Int32.ofNat m)), .val (.int (Int32.ofNat n))] [.int (Int32.ofNat n), .int (Int32.ofNat m)] := H1.iloadN d_mmin_1
  by_cases q : n < m
  · have q2 : Int32.ofNat n < Int32.ofNat m := by rw [Int32.lt_iff_toInt_lt, toInt_of rfl (by omega), toInt_of rfl (by omega)]; omega
    have H3 : Hr x b_mmin Z EL1 0 0 h0 [] 9 #[.val (.int (Int32.ofNat m)), .val (.int (Int32.ofNat n))] [] := H2.icmpT d_mmin_2 (XT.ii_gt_t q2)
    have H4 : Hr x b_mmin Z EL1 0 0 h0 [] 10 #[.val (.int (Int32.ofNat m)), .val (.int (Int32.ofNat n))] [.int (Int32.ofNat n)] := H3.iloadN d_mmin_9
    exact H4.finI d_mmin_10 ⟨rfl, rfl, rfl⟩ sub0
  · obtain rfl : m = n := by omega
    have H5 : Hr x b_mmin Z EL1 0 0 h0 [] 5 #[.val (.int (Int32.ofNat m)), .val (.int (Int32.ofNat m))] [] := H2.icmpF d_mmin_2 (XT.ii_gt_f (by simp))
    have H6 : Hr x b_mmin Z EL1 0 0 h0 [] 6 #[.val (.int (Int32.ofNat m)), .val (.int (Int32.ofNat m))] [.int (Int32.ofNat m)] := H5.iloadN d_mmin_5
    have H7 : Hr x b_mmin Z EL1 0 0 h0 [] 10 #[.val (.int (Int32.ofNat m)), .val (.int (Int32.ofNat m))] [.int (Int32.ofNat m)] := H6.goto d_mmin_6
    exact H7.finI d_mmin_10 ⟨rfl, rfl, rfl⟩ sub0
def b_ckl : Bx := (({ frames := 0, cells := 0, slots := 0, locals := 0 } : Room), (⟨"java/util/Arrays", "checkLength", "(II)V"⟩ : MethodName), jdk_65_method_131_code, 2, (Option.none : Option Jvm.ClassFile.FieldType))
theorem ef_ckl (n : Nat) (mI : MethodId) : entryFrame mI #[.int (0 : Int32), .int (Int32.ofNat n)] 2 = mkF mI 0 #[.val (.int (0 : Int32)), .val (.int (Int32.ofNat n))] [] := by first | (simp [entryFrame, mkF, argsToLocals, Value.category]; done) | rfl
theorem pn_java_util_Arrays : plainName "java/util/Arrays" = true := by first | (simp [plainName, overriddenIn]; done) | decide +kernel
theorem pd_ckl : parseMethodDescriptor "(II)V" = some ⟨[.int, .int], none⟩ := by decide +kernel
set_option maxRecDepth 65536 in
set_option maxHeartbeats 4000000 in
theorem ct_ckl {a0 : Array Value} {Z : State} (hw : ∀ d ∈ tables_1, d.before a0 Z = true) (l : Launch) (nar kn : Bool) (hnr : nar = false) (h0 : Heap) (n : Nat) (hn : n < 2147483648) :
    Ct l Z EL1 (⟨"java/util/Arrays", "checkLength", "(II)V"⟩ : MethodName) jdk_65_method_131_code 2 (Option.none : Option Jvm.ClassFile.FieldType) ({ frames := 0, cells := 0, slots := 0, locals := 0 } : Room) #[.int (0 : Int32), .int (Int32.ofNat n)] h0 [] nar kn (fun v h sn => v = none ∧ sn = [] ∧ h = h0) := by
  refine Ct.intro (plainFor_of_name pn_java_util_Arrays) (ew hw) (ef_ckl n) ?_
  intro x hl hn0 hkn hsf hh H0
  have hnar : x.nar = false := hn0.trans hnr
  have H0 : Hr x b_ckl Z EL1 0 0 h0 [] 0 #[.val (.int (0 : Int32)), .val (.int (Int32.ofNat n))] [] := H0
  have H1 : Hr x b_ckl Z EL1 0 0 h0 [] 1 #[.val (.int (0 : Int32)), .val (.int (Int32.ofNat n))] [.int (Int32.ofNat n)] := H0.iloadN d_ckl_0
  have H2 : Hr x b_ckl Z EL1 0 0 h0 [] 2 #[.val (.int (0 : Int32)), .val (.int (Int32.ofNat n))] [.int (0 : Int32), .int (Int32.ofNat n)] := H1.iloadN d_ckl_1
  have H3 : Hr x b_ckl Z EL1 0 0 h0 [] 37 #[.val (.int (0 : Int32)), .val (.int (Int32.ofNat n))] [] := H2.icmpT d_ckl_2 (XT.ii_ge_t (nn32 hn))
  exact H3.finN d_ckl_37 rfl (by decide) (by decide) sub0 ⟨rfl, rfl, rfl⟩
def b_corb (n : Nat) : Bx := (({ frames := 1, cells := 1, slots := n, locals := 18 } : Room), (⟨"java/util/Arrays", "copyOfRangeByte", "([BII)[B"⟩ : MethodName), jdk_65_method_133_code, 5, (Option.some (Jvm.ClassFile.FieldType.array Jvm.ClassFile.FieldType.byte)))
theorem ef_corb (a : Addr) (n : Nat) (mI : MethodId) : entryFrame mI #[.ref a, .int (0 : Int32), .int (Int32.ofNat n)] 5 = mkF mI 0 #[.val (.ref a), .val (.int (0 : Int32)), .val (.int (Int32.ofNat n)), .unset, .unset] [] := by first | (simp [entryFrame, mkF, argsToLocals, Value.category]; done) | rfl
theorem pd_corb : parseMethodDescriptor "([BII)[B" = some ⟨[(.array .byte), .int, .int], some (.array .byte)⟩ := by decide +kernel
set_option maxRecDepth 65536 in
set_option maxHeartbeats 4000000 in
theorem ct_corb {a0 : Array Value} {Z : State} (hw : ∀ d ∈ tables_1, d.before a0 Z = true) (l : Launch) (nar kn : Bool) (hnr : nar = false) (h0 : Heap) (a : Addr) (n : Nat) (vs : List Value) (Fa : Ar Z h0 a .byte vs) (bv : ∀ v ∈ vs, fits .byte v = true) (hn : n < vs.length) (hcap : n ≤ 4000) :
    Ct l Z EL1 (⟨"java/util/Arrays", "copyOfRangeByte", "([BII)[B"⟩ : MethodName) jdk_65_method_133_code 5 (Option.some (Jvm.ClassFile.FieldType.array Jvm.ClassFile.FieldType.byte)) ({ frames := 1, cells := 1, slots := n, locals := 18 } : Room) #[.ref a, .int (0 : Int32), .int (Int32.ofNat n)] h0 [] nar kn (fun v h sn => ∃ u, v = some (.ref u) ∧ h0.size ≤ u ∧ sn = [u] ∧ Ar Z h u .byte (vs.take n)) := by
  refine Ct.intro (plainFor_of_name pn_java_util_Arrays) (ew hw) (ef_corb a n) ?_
  intro x hl hn0 hkn hsf hh H0
  have hnar : x.nar = false := hn0.trans hnr
  have H0 : Hr x (b_corb n) Z EL1 0 0 h0 [] 0 #[.val (.ref a), .val (.int (0 : Int32)), .val (.int (Int32.ofNat n)), .unset, .unset] [] := H0
  have hl := Fa.len
  have hclamp : (Int32.ofNat n).toNatClampNeg = n := clamp_of rfl (by omega)
  have H1 : Hr x (b_corb n) Z EL1 0 0 h0 [] 1 #[.val (.ref a), .val (.int (0 : Int32)), .val (.int (Int32.ofNat n)), .unset, .unset] [.int (0 : Int32)] := H0.iloadN d_corb_0
  have H2 : Hr x (b_corb n) Z EL1 0 0 h0 [] 2 #[.val (.ref a), .val (.int (0 : Int32)), .val (.int (Int32.ofNat n)), .unset, .unset] [.int (Int32.ofNat n), .int (0 : Int32)] := H1.iloadN d_corb_1
  obtain ⟨_, h1, _, ⟨rfl, rfl, e1⟩, K1, H3⟩ := H2.callS (argsL := [.int (0 : Int32), .int (Int32.ofNat n)]) (rest := []) (Wr := 0) (ct_ckl hw x.l x.nar x.kn hnar h0 n (by omega)) sub0 (w236 hw) (w237 hw) (w231 hw) (w238 hw) d_corb_2 pd_ckl rfl (hf := by first | (simp [b_corb, Bx.R]; done) | (simp [b_corb, Bx.R]; omega)) (hl := by first | (simp [b_corb, Bx.R]; done) | (simp [b_corb, Bx.R]; omega)) (hc := by first | (simp [b_corb, Bx.R]; done) | (simp [b_corb, Bx.R]; omega)) (hs := by first | (simp [b_corb, Bx.R]; done) | (simp [b_corb, Bx.R]; omega))
  rw [e1] at H3
  have H3 : Hr x (b_corb n) Z EL1 0 0 h0 [] 5 #[.val (.ref a), .val (.int (0 : Int32)), .val (.int (Int32.ofNat n)), .unset, .unset] [] := H3
  have H4 : Hr x (b_corb n) Z EL1 0 0 h0 [] 6 #[.val (.ref a), .val (.int (0 : Int32)), .val (.int (Int32.ofNat n)), .unset, .unset] [.int (Int32.ofNat n)] := H3.iloadN d_corb_5
  have H5 : Hr x (b_corb n) Z EL1 0 0 h0 [] 7 #[.val (.ref a), .val (.int (0 : Int32)), .val (.int (Int32.ofNat n)), .unset, .unset] [.int (0 : Int32), .int (Int32.ofNat n)] := H4.iloadN d_corb_6
  have H6 : Hr x (b_corb n) Z EL1 0 0 h0 [] 8 #[.val (.ref a), .val (.int (0 : Int32)), .val (.int (Int32.ofNat n)), .unset, .unset] [.int (Int32.ofNat n)] := H5.isub d_corb_7 (hv := (by simp))
  have H7 : Hr x (b_corb n) Z EL1 0 0 h0 [] 9 #[.val (.ref a), .val (.int (0 : Int32)), .val (.int (Int32.ofNat n)), .val (.int (Int32.ofNat n)), .unset] [] := H6.istoreN d_corb_8
  have H8 : Hr x (b_corb n) Z EL1 0 0 h0 [] 10 #[.val (.ref a), .val (.int (0 : Int32)), .val (.int (Int32.ofNat n)), .val (.int (Int32.ofNat n)), .unset] [.int (Int32.ofNat n)] := H7.iloadN d_corb_9
  obtain ⟨h2, E2, Fu, H9⟩ := H8.newarray (aty := .byte) (cap := n) (w23 hw) d_corb_10 (nn32 (by omega)) (Nat.le_of_eq hclamp) (by omega) (by first | (simp [b_corb, Bx.R]; done) | (simp [b_corb, Bx.R]; omega)) (by first | (simp [b_corb, Bx.R]; done) | (simp [b_corb, Bx.R]; omega))
  obtain ⟨u, g_u⟩ : ∃ z, z = h0.size := ⟨_, rfl⟩
  rw [← g_u] at Fu H9
  have Fu : Ar Z h2 u .byte (List.replicate n (.int 0)) := (by have := Fu; rw [hclamp] at this; exact this)
  have H9 : Hr x (b_corb n) Z EL1 1 (0 + n) h2 [u] 12 #[.val (.ref a), .val (.int (0 : Int32)), .val (.int (Int32.ofNat n)), .val (.int (Int32.ofNat n)), .unset] [.ref u] := H9
  have H10 : Hr x (b_corb n) Z EL1 1 (0 + n) h2 [u] 14 #[.val (.ref a), .val (.int (0 : Int32)), .val (.int (Int32.ofNat n)), .val (.int (Int32.ofNat n)), .val (.ref u)] [] := H9.astore d_corb_12
  have H11 : Hr x (b_corb n) Z EL1 1 (0 + n) h2 [u] 15 #[.val (.ref a), .val (.int (0 : Int32)), .val (.int (Int32.ofNat n)), .val (.int (Int32.ofNat n)), .val (.ref u)] [.ref a] := H10.aloadN d_corb_14
  have H12 : Hr x (b_corb n) Z EL1 1 (0 + n) h2 [u] 16 #[.val (.ref a), .val (.int (0 : Int32)), .val (.int (Int32.ofNat n)), .val (.int (Int32.ofNat n)), .val (.ref u)] [.int (0 : Int32), .ref a] := H11.iloadN d_corb_15
  have H13 : Hr x (b_corb n) Z EL1 1 (0 + n) h2 [u] 18 #[.val (.ref a), .val (.int (0 : Int32)), .val (.int (Int32.ofNat n)), .val (.int (Int32.ofNat n)), .val (.ref u)] [.ref u, .int (0 : Int32), .ref a] := H12.aload d_corb_16
  have H14 : Hr x (b_corb n) Z EL1 1 (0 + n) h2 [u] 19 #[.val (.ref a), .val (.int (0 : Int32)), .val (.int (Int32.ofNat n)), .val (.int (Int32.ofNat n)), .val (.ref u)] [.int (0 : Int32), .ref u, .int (0 : Int32), .ref a] := H13.iconst d_corb_18
  have H15 : Hr x (b_corb n) Z EL1 1 (0 + n) h2 [u] 20 #[.val (.ref a), .val (.int (0 : Int32)), .val (.int (Int32.ofNat n)), .val (.int (Int32.ofNat n)), .val (.ref u)] [.ref a, .int (0 : Int32), .ref u, .int (0 : Int32), .ref a] := H14.aloadN d_corb_19
  have H16 : Hr x (b_corb n) Z EL1 1 (0 + n) h2 [u] 21 #[.val (.ref a), .val (.int (0 : Int32)), .val (.int (Int32.ofNat n)), .val (.int (Int32.ofNat n)), .val (.ref u)] [.int (Int32.ofNat vs.length), .int (0 : Int32), .ref u, .int (0 : Int32), .ref a] := H15.arraylength (Fa.ext E2) d_corb_20
  have H17 : Hr x (b_corb n) Z EL1 1 (0 + n) h2 [u] 22 #[.val (.ref a), .val (.int (0 : Int32)), .val (.int (Int32.ofNat n)), .val (.int (Int32.ofNat n)), .val (.ref u)] [.int (0 : Int32), .int (Int32.ofNat vs.length), .int (0 : Int32), .ref u, .int (0 : Int32), .ref a] := H16.iloadN d_corb_21
  have H18 : Hr x (b_corb n) Z EL1 1 (0 + n) h2 [u] 23 #[.val (.ref a), .val (.int (0 : Int32)), .val (.int (Int32.ofNat n)), .val (.int (Int32.ofNat n)), .val (.ref u)] [.int (Int32.ofNat vs.length), .int (0 : Int32), .ref u, .int (0 : Int32), .ref a] := H17.isub d_corb_22 (hv := (by simp))
  have H19 : Hr x (b_corb n) Z EL1 1 (0 + n) h2 [u] 24 #[.val (.ref a), .val (.int (0 : Int32)), .val (.int (Int32.ofNat n)), .val (.int (Int32.ofNat n)), .val (.ref u)] [.int (Int32.ofNat n), .int (Int32.ofNat vs.length), .int (0 : Int32), .ref u, .int (0 : Int32), .ref a] := H18.iloadN d_corb_23
  obtain ⟨_, h3, _, ⟨rfl, rfl, e3⟩, K3, H20⟩ := H19.callS (argsL := [.int (Int32.ofNat vs.length), .int (Int32.ofNat n)]) (rest := [.int (0 : Int32), .ref u, .int (0 : Int32), .ref a]) (Wr := 4) (ct_mmin hw x.l x.nar x.kn hnar h2 vs.length n (by omega) hl) sub0 (w239 hw) (w87 hw) (w84 hw) (w88 hw) d_corb_24 pd_mmin rfl (hf := by first | (simp [b_corb, Bx.R]; done) | (simp [b_corb, Bx.R]; omega)) (hl := by first | (simp [b_corb, Bx.R]; done) | (simp [b_corb, Bx.R]; omega)) (hc := by first | (simp [b_corb, Bx.R]; done) | (simp [b_corb, Bx.R]; omega)) (hs := by first | (simp [b_corb, Bx.R]; done) | (simp [b_corb, Bx.R]; omega))
  rw [e3] at H20
  have H20 : Hr x (b_corb n) Z EL1 1 (0 + n + 0) h2 [u] 27 #[.val (.ref a), .val (.int (0 : Int32)), .val (.int (Int32.ofNat n)), .val (.int (Int32.ofNat n)), .val (.ref u)] [.int (Int32.ofNat n), .int (0 : Int32), .ref u, .int (0 : Int32), .ref a] := H20
  obtain ⟨h4, K4, Fu4, H21⟩ := H20.arraycopy (i := 0) (j := 0) (n := n) (Wr := 0) (ty := .byte) (by simp) (w240 hw) (w197 hw) (w195 hw) (w196 hw) (Fa.ext E2) Fu (by decide) bv (fun v hv => by rw [List.eq_of_mem_replicate hv]; rfl) (by omega) (by simp) d_corb_27 (hf := by first | (simp [b_corb, Bx.R]; done) | (simp [b_corb, Bx.R]; omega)) (hl := by first | (simp [b_corb, Bx.R]; done) | (simp [b_corb, Bx.R]; omega))
  have H21 : Hr x (b_corb n) Z EL1 1 (0 + n + 0) h4 [u] 30 #[.val (.ref a), .val (.int (0 : Int32)), .val (.int (Int32.ofNat n)), .val (.int (Int32.ofNat n)), .val (.ref u)] [] := H21
  have H22 : Hr x (b_corb n) Z EL1 1 (0 + n + 0) h4 [u] 32 #[.val (.ref a), .val (.int (0 : Int32)), .val (.int (Int32.ofNat n)), .val (.int (Int32.ofNat n)), .val (.ref u)] [.ref u] := H21.aload d_corb_30
  exact H22.finA d_corb_32 ⟨u, rfl, by omega, rfl, by simpa using Fu4⟩ (sub1 (by simp)) (hK := by first | (simp [b_corb, Bx.R]; done) | (simp [b_corb, Bx.R]; omega)) (hS := by first | (simp [b_corb, Bx.R]; done) | (simp [b_corb, Bx.R]; omega))
def b_cor (n : Nat) : Bx := (({ frames := 2, cells := 1, slots := n, locals := 34 } : Room), (⟨"java/util/Arrays", "copyOfRange", "([BII)[B"⟩ : MethodName), jdk_65_method_132_code, 3, (Option.some (Jvm.ClassFile.FieldType.array Jvm.ClassFile.FieldType.byte)))
theorem ef_cor (a : Addr) (n : Nat) (mI : MethodId) : entryFrame mI #[.ref a, .int (0 : Int32), .int (Int32.ofNat n)] 3 = mkF mI 0 #[.val (.ref a), .val (.int (0 : Int32)), .val (.int (Int32.ofNat n))] [] := by first | (simp [entryFrame, mkF, argsToLocals, Value.category]; done) | rfl
theorem pd_cor : parseMethodDescriptor "([BII)[B" = some ⟨[(.array .byte), .int, .int], some (.array .byte)⟩ := by decide +kernel
set_option maxRecDepth 65536 in
set_option maxHeartbeats 4000000 in
theorem ct_cor {a0 : Array Value} {Z : State} (hw : ∀ d ∈ tables_1, d.before a0 Z = true) (l : Launch) (nar kn : Bool) (hnr : nar = false) (h0 : Heap) (a : Addr) (n : Nat) (vs : List Value) (Fa : Ar Z h0 a .byte vs) (bv : ∀ v ∈ vs, fits .byte v = true) (hn : n < vs.length) (hcap : n ≤ 4000) :
    Ct l Z EL1 (⟨"java/util/Arrays", "copyOfRange", "([BII)[B"⟩ : MethodName) jdk_65_method_132_code 3 (Option.some (Jvm.ClassFile.FieldType.array Jvm.ClassFile.FieldType.byte)) ({ frames := 2, cells := 1, slots := n, locals := 34 } : Room) #[.ref a, .int (0 : Int32), .int (Int32.ofNat n)] h0 [] nar kn (fun v h sn => ∃ u, v = some (.ref u) ∧ h0.size ≤ u ∧ sn = [u] ∧ Ar Z h u .byte (vs.take n)) := by
  refine Ct.intro (plainFor_of_name pn_java_util_Arrays) (ew hw) (ef_cor a n) ?_
  intro x hl hn0 hkn hsf hh H0
  have hnar : x.nar = false := hn0.trans hnr
  have H0 : Hr x (b_cor n) Z EL1 0 0 h0 [] 0 #[.val (.ref a), .val (.int (0 : Int32)), .val (.int (Int32.ofNat n))] [] := H0
  have hl := Fa.len
  have H1 : Hr x (b_cor n) Z EL1 0 0 h0 [] 1 #[.val (.ref a), .val (.int (0 : Int32)), .val (.int (Int32.ofNat n))] [.int (0 : Int32)] := H0.iloadN d_cor_0
  have H2 : Hr x (b_cor n) Z EL1 0 0 h0 [] 4 #[.val (.ref a), .val (.int (0 : Int32)), .val (.int (Int32.ofNat n))] [] := H1.ifF d_cor_1 (XT.i0_ne_f rfl)
  have H3 : Hr x (b_cor n) Z EL1 0 0 h0 [] 5 #[.val (.ref a), .val (.int (0 : Int32)), .val (.int (Int32.ofNat n))] [.int (Int32.ofNat n)] := H2.iloadN d_cor_4
  have H4 : Hr x (b_cor n) Z EL1 0 0 h0 [] 6 #[.val (.ref a), .val (.int (0 : Int32)), .val (.int (Int32.ofNat n))] [.ref a, .int (Int32.ofNat n)] := H3.aloadN d_cor_5
  have H5 : Hr x (b_cor n) Z EL1 0 0 h0 [] 7 #[.val (.ref a), .val (.int (0 : Int32)), .val (.int (Int32.ofNat n))] [.int (Int32.ofNat vs.length), .int (Int32.ofNat n)] := H4.arraylength Fa d_cor_6
  have H6 : Hr x (b_cor n) Z EL1 0 0 h0 [] 10 #[.val (.ref a), .val (.int (0 : Int32)), .val (.int (Int32.ofNat n))] [] := H5.icmpF d_cor_7 (XT.ii_eq_f fun q => by have := ofNat_inj (by omega) hl q; omega)
  have H7 : Hr x (b_cor n) Z EL1 0 0 h0 [] 11 #[.val (.ref a), .val (.int (0 : Int32)), .val (.int (Int32.ofNat n))] [.ref a] := H6.aloadN d_cor_10
  have H8 : Hr x (b_cor n) Z EL1 0 0 h0 [] 12 #[.val (.ref a), .val (.int (0 : Int32)), .val (.int (Int32.ofNat n))] [.int (0 : Int32), .ref a] := H7.iloadN d_cor_11
  have H9 : Hr x (b_cor n) Z EL1 0 0 h0 [] 13 #[.val (.ref a), .val (.int (0 : Int32)), .val (.int (Int32.ofNat n))] [.int (Int32.ofNat n), .int (0 : Int32), .ref a] := H8.iloadN d_cor_12
  obtain ⟨_, h1, _, ⟨u, rfl, hu, rfl, Fu⟩, K1, H10⟩ := H9.callS (argsL := [.ref a, .int (0 : Int32), .int (Int32.ofNat n)]) (rest := []) (Wr := 0) (ct_corb hw x.l x.nar x.kn hnar h0 a n vs Fa bv hn hcap) sub0 (w233 hw) (w234 hw) (w231 hw) (w235 hw) d_cor_13 pd_corb rfl (hf := by first | (simp [b_cor, Bx.R]; done) | (simp [b_cor, Bx.R]; omega)) (hl := by first | (simp [b_cor, Bx.R]; done) | (simp [b_cor, Bx.R]; omega)) (hc := by first | (simp [b_cor, Bx.R]; done) | (simp [b_cor, Bx.R]; omega)) (hs := by first | (simp [b_cor, Bx.R]; done) | (simp [b_cor, Bx.R]; omega))
  have H10 : Hr x (b_cor n) Z EL1 1 (0 + n) h1 [u] 16 #[.val (.ref a), .val (.int (0 : Int32)), .val (.int (Int32.ofNat n))] [.ref u] := H10
  exact H10.finA d_cor_16 ⟨u, rfl, hu, rfl, Fu⟩ (sub1 (by simp)) (hK := by first | (simp [b_cor, Bx.R]; done) | (simp [b_cor, Bx.R]; omega)) (hS := by first | (simp [b_cor, Bx.R]; done) | (simp [b_cor, Bx.R]; omega))
def b_siav (n : Nat) : Bx := (({ frames := 3, cells := 1, slots := n, locals := 49 } : Room), (⟨"java/lang/String", "<init>", "(Ljava/lang/AbstractStringBuilder;Ljava/lang/Void;)V"⟩ : MethodName), jdk_42_method_150_code, 5, (Option.none : Option Jvm.ClassFile.FieldType))
theorem ef_siav (q s : Addr) (mI : MethodId) : entryFrame mI #[.ref q, .ref s, .null] 5 = mkF mI 0 #[.val (.ref q), .val (.ref s), .val (.null), .unset, .unset] [] := by first | (simp [entryFrame, mkF, argsToLocals, Value.category]; done) | rfl
theorem pd_siav : parseMethodDescriptor "(Ljava/lang/AbstractStringBuilder;Ljava/lang/Void;)V" = some ⟨[(.object "java/lang/AbstractStringBuilder"), (.object "java/lang/Void")], none⟩ := by decide +kernel
set_option maxRecDepth 65536 in
set_option maxHeartbeats 4000000 in
theorem ct_siav {a0 : Array Value} {Z : State} (hw : ∀ d ∈ tables_1, d.before a0 Z = true) (l : Launch) (nar kn : Bool) (hnr : nar = false) (h0 : Heap) (q s t : Addr) (bs : List Int32) (r : Nat) (Eq : Exa Z h0 q "java/lang/String") (Fc : Fld Z h0 q "java/lang/String" "coder" "B" (.int 0)) (Fv : Fld Z h0 q "java/lang/String" "value" "[B" .null) (F : Sbd Z h0 s t bs r) (bb : BL bs) (hr : 0 < r) (hcap : bs.length ≤ 4000) (cz : Int32) (O : Sta Z Z.heap "java/lang/String" "COMPACT_STRINGS" "Z" (.int cz)) (hcz : ¬ cz = 0) :
    Ct l Z EL1 (⟨"java/lang/String", "<init>", "(Ljava/lang/AbstractStringBuilder;Ljava/lang/Void;)V"⟩ : MethodName) jdk_42_method_150_code 5 (Option.none : Option Jvm.ClassFile.FieldType) ({ frames := 3, cells := 1, slots := bs.length, locals := 49 } : Room) #[.ref q, .ref s, .null] h0 [q] nar kn (fun v h sn => v = none ∧ sn = [] ∧ ∃ u, Str Z h q u bs) := by
  refine Ct.intro (plainFor_of_name pn_java_lang_String) (ew hw) (ef_siav q s) ?_
  intro x hl hn0 hkn hsf hh H0
  have hnar : x.nar = false := hn0.trans hnr
  have H0 : Hr x (b_siav bs.length) Z EL1 0 0 h0 [q] 0 #[.val (.ref q), .val (.ref s), .val (.null), .unset, .unset] [] := H0
  have slne := slot_ne (a0 := a0) (C := "java/lang/String") (n := "value") (n' := "coder") (Or.inr (w33 hw)) (Or.inr (w31 hw)) (by decide) (t := .array .byte) (t' := .byte) (by decide) (by decide)
  have H1 : Hr x (b_siav bs.length) Z EL1 0 0 h0 [q] 1 #[.val (.ref q), .val (.ref s), .val (.null), .unset, .unset] [.ref q] := H0.aloadN d_siav_0
  have H2 : Hr x (b_siav bs.length) Z EL1 0 0 h0 [q] 4 #[.val (.ref q), .val (.ref s), .val (.null), .unset, .unset] [] := H1.initO (Wr := 0) (w15 hw) (w16 hw) (w17 hw) d_siav_1 (hf := by first | (simp [b_siav, Bx.R]; done) | (simp [b_siav, Bx.R]; omega)) (hl := by first | (simp [b_siav, Bx.R]; done) | (simp [b_siav, Bx.R]; omega))
  have H3 : Hr x (b_siav bs.length) Z EL1 0 0 h0 [q] 5 #[.val (.ref q), .val (.ref s), .val (.null), .unset, .unset] [.ref s] := H2.aloadN d_siav_4
  obtain ⟨_, h1, _, ⟨rfl, rfl, e1⟩, K1, H4⟩ := H3.callV (argsL := []) (rest := []) (Wr := 0) (a := s) (ct_gval hw x.l x.nar x.kn hnar h0 s t bs r F) sub0 F.1 (w211 hw) (w212 hw) (w214 hw) (w214 hw) (w213 hw) (w151 hw) (w215 hw) d_siav_5 pd_gval rfl (hf := by first | (simp [b_siav, Bx.R]; done) | (simp [b_siav, Bx.R]; omega)) (hl := by first | (simp [b_siav, Bx.R]; done) | (simp [b_siav, Bx.R]; omega)) (hc := by first | (simp [b_siav, Bx.R]; done) | (simp [b_siav, Bx.R]; omega)) (hs := by first | (simp [b_siav, Bx.R]; done) | (simp [b_siav, Bx.R]; omega))
  rw [e1] at H4
  have H4 : Hr x (b_siav bs.length) Z EL1 0 0 h0 [q] 8 #[.val (.ref q), .val (.ref s), .val (.null), .unset, .unset] [.ref t] := H4
  have H5 : Hr x (b_siav bs.length) Z EL1 0 0 h0 [q] 9 #[.val (.ref q), .val (.ref s), .val (.null), .val (.ref t), .unset] [] := H4.astoreN d_siav_8
  have H6 : Hr x (b_siav bs.length) Z EL1 0 0 h0 [q] 10 #[.val (.ref q), .val (.ref s), .val (.null), .val (.ref t), .unset] [.ref s] := H5.aloadN d_siav_9
  obtain ⟨_, h2, _, ⟨rfl, rfl, e2⟩, K2, H7⟩ := H6.callV (argsL := []) (rest := []) (Wr := 0) (a := s) (ct_blen hw x.l x.nar x.kn hnar h0 s t bs r F) sub0 F.1 (w216 hw) (w217 hw) (w176 hw) (w219 hw) (w220 hw) (w143 hw) (w221 hw) d_siav_10 pd_blen rfl (hf := by first | (simp [b_siav, Bx.R]; done) | (simp [b_siav, Bx.R]; omega)) (hl := by first | (simp [b_siav, Bx.R]; done) | (simp [b_siav, Bx.R]; omega)) (hc := by first | (simp [b_siav, Bx.R]; done) | (simp [b_siav, Bx.R]; omega)) (hs := by first | (simp [b_siav, Bx.R]; done) | (simp [b_siav, Bx.R]; omega))
  rw [e2] at H7
  have H7 : Hr x (b_siav bs.length) Z EL1 0 0 h0 [q] 13 #[.val (.ref q), .val (.ref s), .val (.null), .val (.ref t), .unset] [.int (Int32.ofNat bs.length)] := H7
  have H8 : Hr x (b_siav bs.length) Z EL1 0 0 h0 [q] 15 #[.val (.ref q), .val (.ref s), .val (.null), .val (.ref t), .val (.int (Int32.ofNat bs.length))] [] := H7.istore d_siav_13
  have H9 : Hr x (b_siav bs.length) Z EL1 0 0 h0 [q] 16 #[.val (.ref q), .val (.ref s), .val (.null), .val (.ref t), .val (.int (Int32.ofNat bs.length))] [.ref s] := H8.aloadN d_siav_15
  obtain ⟨_, h3, _, ⟨rfl, rfl, e3⟩, K3, H10⟩ := H9.callV (argsL := []) (rest := []) (Wr := 0) (a := s) (ct_ail1 hw x.l x.nar x.kn hnar h0 s t bs r F cz O hcz) sub0 F.1 (w224 hw) (w225 hw) (w227 hw) (w227 hw) (w226 hw) (w151 hw) (w228 hw) d_siav_16 pd_ail1 rfl (hf := by first | (simp [b_siav, Bx.R]; done) | (simp [b_siav, Bx.R]; omega)) (hl := by first | (simp [b_siav, Bx.R]; done) | (simp [b_siav, Bx.R]; omega)) (hc := by first | (simp [b_siav, Bx.R]; done) | (simp [b_siav, Bx.R]; omega)) (hs := by first | (simp [b_siav, Bx.R]; done) | (simp [b_siav, Bx.R]; omega))
  rw [e3] at H10
  have H10 : Hr x (b_siav bs.length) Z EL1 0 0 h0 [q] 19 #[.val (.ref q), .val (.ref s), .val (.null), .val (.ref t), .val (.int (Int32.ofNat bs.length))] [.int (1 : Int32)] := H10
  have H11 : Hr x (b_siav bs.length) Z EL1 0 0 h0 [q] 22 #[.val (.ref q), .val (.ref s), .val (.null), .val (.ref t), .val (.int (Int32.ofNat bs.length))] [] := H10.ifF d_siav_19 (XT.i0_eq_f (by decide))
  have H12 : Hr x (b_siav bs.length) Z EL1 0 0 h0 [q] 23 #[.val (.ref q), .val (.ref s), .val (.null), .val (.ref t), .val (.int (Int32.ofNat bs.length))] [.ref q] := H11.aloadN d_siav_22
  have H13 : Hr x (b_siav bs.length) Z EL1 0 0 h0 [q] 24 #[.val (.ref q), .val (.ref s), .val (.null), .val (.ref t), .val (.int (Int32.ofNat bs.length))] [.int (0 : Int32), .ref q] := H12.iconst d_siav_23
  obtain ⟨h4, W4, H14⟩ := H13.putF (by simp) (w30 hw) Fc Eq (Or.inr ⟨(w31 hw), rfl, rfl⟩) (w6 hw) d_siav_24 (ty := .byte)
  have H14 : Hr x (b_siav bs.length) Z EL1 0 0 h4 [q] 27 #[.val (.ref q), .val (.ref s), .val (.null), .val (.ref t), .val (.int (Int32.ofNat bs.length))] [] := H14
  have hqt : t ≠ q := fun e => by subst e; exact (Exa.neArv Eq (F.2.2.2.2.arv (dv := .int 0) (bb.app (BL.rep r)).vals).choose_spec (w6 hw)) rfl
  have H15 : Hr x (b_siav bs.length) Z EL1 0 0 h4 [q] 28 #[.val (.ref q), .val (.ref s), .val (.null), .val (.ref t), .val (.int (Int32.ofNat bs.length))] [.ref q] := H14.aloadN d_siav_27
  have H16 : Hr x (b_siav bs.length) Z EL1 0 0 h4 [q] 29 #[.val (.ref q), .val (.ref s), .val (.null), .val (.ref t), .val (.int (Int32.ofNat bs.length))] [.ref t, .ref q] := H15.aloadN d_siav_28
  have H17 : Hr x (b_siav bs.length) Z EL1 0 0 h4 [q] 30 #[.val (.ref q), .val (.ref s), .val (.null), .val (.ref t), .val (.int (Int32.ofNat bs.length))] [.int (0 : Int32), .ref t, .ref q] := H16.iconst d_siav_29
  have H18 : Hr x (b_siav bs.length) Z EL1 0 0 h4 [q] 32 #[.val (.ref q), .val (.ref s), .val (.null), .val (.ref t), .val (.int (Int32.ofNat bs.length))] [.int (Int32.ofNat bs.length), .int (0 : Int32), .ref t, .ref q] := H17.iload d_siav_30
  obtain ⟨_, h5, _, ⟨u, rfl, hu, rfl, Fu⟩, K5, H19⟩ := H18.callS (argsL := [.ref t, .int (0 : Int32), .int (Int32.ofNat bs.length)]) (rest := [.ref q]) (Wr := 1) (ct_cor hw x.l x.nar x.kn hnar h4 t bs.length _ (F.2.2.2.2.other W4 hqt) (bb.app (BL.rep r)).vals (by simp; omega) hcap) sub0 (w229 hw) (w230 hw) (w231 hw) (w232 hw) d_siav_32 pd_cor rfl (hf := by first | (simp [b_siav, Bx.R]; done) | (simp [b_siav, Bx.R]; omega)) (hl := by first | (simp [b_siav, Bx.R]; done) | (simp [b_siav, Bx.R]; omega)) (hc := by first | (simp [b_siav, Bx.R]; done) | (simp [b_siav, Bx.R]; omega)) (hs := by first | (simp [b_siav, Bx.R]; done) | (simp [b_siav, Bx.R]; omega))
  have H19 : Hr x (b_siav bs.length) Z EL1 1 (0 + bs.length) h5 [u, q] 35 #[.val (.ref q), .val (.ref s), .val (.null), .val (.ref t), .val (.int (Int32.ofNat bs.length))] [.ref u, .ref q] := H19
  have hl4 := exa_lt (Eq.wr W4)
  obtain ⟨h6, W6, H20⟩ := H19.putF (by simp) (w32 hw) ((Fv.other W4 (Or.inr slne)).keep K5 nin0) ((Eq.wr W4).keep K5) (Or.inr ⟨(w33 hw), rfl, rfl⟩) (w6 hw) d_siav_35 (ty := (.array .byte))
  have H20 : Hr x (b_siav bs.length) Z EL1 1 (0 + bs.length) h6 [u, q] 38 #[.val (.ref q), .val (.ref s), .val (.null), .val (.ref t), .val (.int (Int32.ofNat bs.length))] [] := H20
  have H21 : Hr x (b_siav bs.length) Z EL1 1 (0 + bs.length) h6 [u, q] 97 #[.val (.ref q), .val (.ref s), .val (.null), .val (.ref t), .val (.int (Int32.ofNat bs.length))] [] := H20.goto d_siav_38
  refine H21.finN d_siav_97 rfl (by first | (simp [b_siav, Bx.R]; done) | (simp [b_siav, Bx.R]; omega)) (by first | (simp [b_siav, Bx.R]; done) | (simp [b_siav, Bx.R]; omega)) sub0 ⟨rfl, rfl, u, ((Eq.wr W4).keep K5).wr W6, ((Fld.same W4 Fc).keep K5 nin0).other W6 (Or.inr (Ne.symm slne)), Fld.same W6 ((Fv.other W4 (Or.inr slne)).keep K5 nin0), ?_⟩
  have := Fu.other W6 (neN (by omega)); simpa using this
def b_sisb (n : Nat) : Bx := (({ frames := 4, cells := 1, slots := n, locals := 65 } : Room), (⟨"java/lang/String", "<init>", "(Ljava/lang/StringBuilder;)V"⟩ : MethodName), jdk_42_method_53_code, 2, (Option.none : Option Jvm.ClassFile.FieldType))
theorem ef_sisb (q s : Addr) (mI : MethodId) : entryFrame mI #[.ref q, .ref s] 2 = mkF mI 0 #[.val (.ref q), .val (.ref s)] [] := by first | (simp [entryFrame, mkF, argsToLocals, Value.category]; done) | rfl
theorem pd_sisb : parseMethodDescriptor "(Ljava/lang/StringBuilder;)V" = some ⟨[(.object "java/lang/StringBuilder")], none⟩ := by decide +kernel
set_option maxRecDepth 65536 in
set_option maxHeartbeats 4000000 in
theorem ct_sisb {a0 : Array Value} {Z : State} (hw : ∀ d ∈ tables_1, d.before a0 Z = true) (l : Launch) (nar kn : Bool) (hnr : nar = false) (h0 : Heap) (q s t : Addr) (bs : List Int32) (r : Nat) (Eq : Exa Z h0 q "java/lang/String") (Fc : Fld Z h0 q "java/lang/String" "coder" "B" (.int 0)) (Fv : Fld Z h0 q "java/lang/String" "value" "[B" .null) (F : Sbd Z h0 s t bs r) (bb : BL bs) (hr : 0 < r) (hcap : bs.length ≤ 4000) (cz : Int32) (O : Sta Z Z.heap "java/lang/String" "COMPACT_STRINGS" "Z" (.int cz)) (hcz : ¬ cz = 0) :
    Ct l Z EL1 (⟨"java/lang/String", "<init>", "(Ljava/lang/StringBuilder;)V"⟩ : MethodName) jdk_42_method_53_code 2 (Option.none : Option Jvm.ClassFile.FieldType) ({ frames := 4, cells := 1, slots := bs.length, locals := 65 } : Room) #[.ref q, .ref s] h0 [q] nar kn (fun v h sn => v = none ∧ sn = [] ∧ ∃ u, Str Z h q u bs) := by
  refine Ct.intro (plainFor_of_name pn_java_lang_String) (ew hw) (ef_sisb q s) ?_
  intro x hl hn0 hkn hsf hh H0
  have hnar : x.nar = false := hn0.trans hnr
  have H0 : Hr x (b_sisb bs.length) Z EL1 0 0 h0 [q] 0 #[.val (.ref q), .val (.ref s)] [] := H0
  have H1 : Hr x (b_sisb bs.length) Z EL1 0 0 h0 [q] 1 #[.val (.ref q), .val (.ref s)] [.ref q] := H0.aloadN d_sisb_0
  have H2 : Hr x (b_sisb bs.length) Z EL1 0 0 h0 [q] 2 #[.val (.ref q), .val (.ref s)] [.ref s, .ref q] := H1.aloadN d_sisb_1
  have H3 : Hr x (b_sisb bs.length) Z EL1 0 0 h0 [q] 3 #[.val (.ref q), .val (.ref s)] [.null, .ref s, .ref q] := H2.aconstNull d_sisb_2
  obtain ⟨_, h1, _, ⟨rfl, rfl, u, Fs⟩, K1, H4⟩ := H3.callI (argsL := [.ref s, .null]) (rest := []) (Wr := 0) (a := q) (ct_siav hw x.l x.nar x.kn hnar h0 q s t bs r Eq Fc Fv F bb hr hcap cz O hcz) (sub1 (by simp)) (w208 hw) (w209 hw) (w7 hw) (w210 hw) d_sisb_3 pd_siav rfl (hf := by first | (simp [b_sisb, Bx.R]; done) | (simp [b_sisb, Bx.R]; omega)) (hl := by first | (simp [b_sisb, Bx.R]; done) | (simp [b_sisb, Bx.R]; omega)) (hc := by first | (simp [b_sisb, Bx.R]; done) | (simp [b_sisb, Bx.R]; omega)) (hs := by first | (simp [b_sisb, Bx.R]; done) | (simp [b_sisb, Bx.R]; omega))
  have H4 : Hr x (b_sisb bs.length) Z EL1 1 (0 + bs.length) h1 [q] 6 #[.val (.ref q), .val (.ref s)] [] := H4
  exact H4.finN d_sisb_6 rfl (by first | (simp [b_sisb, Bx.R]; done) | (simp [b_sisb, Bx.R]; omega)) (by first | (simp [b_sisb, Bx.R]; done) | (simp [b_sisb, Bx.R]; omega)) sub0 ⟨rfl, rfl, u, Fs⟩
def b_tstr (n : Nat) : Bx := (({ frames := 5, cells := 2, slots := 4 + n, locals := 79 } : Room), (⟨"java/lang/StringBuilder", "toString", "()Ljava/lang/String;"⟩ : MethodName), jdk_67_method_42_code, 1, (Option.some (Jvm.ClassFile.FieldType.object "java/lang/String")))
theorem ef_tstr (s : Addr) (mI : MethodId) : entryFrame mI #[.ref s] 1 = mkF mI 0 #[.val (.ref s)] [] := by first | (simp [entryFrame, mkF, argsToLocals, Value.category]; done) | rfl
theorem pd_tstr : parseMethodDescriptor "()Ljava/lang/String;" = some ⟨[], some (.object "java/lang/String")⟩ := by decide +kernel
set_option maxRecDepth 65536 in
set_option maxHeartbeats 4000000 in
theorem ct_tstr {a0 : Array Value} {Z : State} (hw : ∀ d ∈ tables_1, d.before a0 Z = true) (l : Launch) (nar kn : Bool) (hnr : nar = false) (h0 : Heap) (s t : Addr) (bs : List Int32) (r : Nat) (F : Sbd Z h0 s t bs r) (bb : BL bs) (hr : 0 < r) (hcap : bs.length ≤ 4000) (cz : Int32) (O : Sta Z Z.heap "java/lang/String" "COMPACT_STRINGS" "Z" (.int cz)) (hcz : ¬ cz = 0) :
    Ct l Z EL1 (⟨"java/lang/StringBuilder", "toString", "()Ljava/lang/String;"⟩ : MethodName) jdk_67_method_42_code 1 (Option.some (Jvm.ClassFile.FieldType.object "java/lang/String")) ({ frames := 5, cells := 2, slots := 4 + bs.length, locals := 79 } : Room) #[.ref s] h0 [] nar kn (fun v h sn => ∃ q u, v = some (.ref q) ∧ sn = [] ∧ Str Z h q u bs) := by
  refine Ct.intro (plainFor_of_name pn_java_lang_StringBuilder) (ew hw) (ef_tstr s) ?_
  intro x hl hn0 hkn hsf hh H0
  have hnar : x.nar = false := hn0.trans hnr
  have H0 : Hr x (b_tstr bs.length) Z EL1 0 0 h0 [] 0 #[.val (.ref s)] [] := H0
  obtain ⟨h1, E1, ⟨X1, D1, U1⟩, H1⟩ := H0.new (w204 hw) (w6 hw) (w7 hw) d_tstr_0 (by first | (simp [b_tstr, Bx.R]; done) | (simp [b_tstr, Bx.R]; omega)) (by first | (simp [b_tstr, Bx.R]; done) | (simp [b_tstr, Bx.R]; omega))
  obtain ⟨q, g_q⟩ : ∃ z, z = h0.size := ⟨_, rfl⟩
  rw [← g_q] at X1 D1 U1 H1
  have H1 : Hr x (b_tstr bs.length) Z EL1 1 4 h1 [q] 3 #[.val (.ref s)] [.ref q] := H1
  have H2 : Hr x (b_tstr bs.length) Z EL1 1 4 h1 [q] 4 #[.val (.ref s)] [.ref q, .ref q] := H1.dup d_tstr_3
  have H3 : Hr x (b_tstr bs.length) Z EL1 1 4 h1 [q] 5 #[.val (.ref s)] [.ref s, .ref q, .ref q] := H2.aloadN d_tstr_4
  have Fc : Fld Z h1 q "java/lang/String" "coder" "B" (.int 0) := D1 (Or.inr (w31 hw)) (ty := .byte) (by decide)
  have Fv : Fld Z h1 q "java/lang/String" "value" "[B" .null := D1 (Or.inr (w33 hw)) (ty := .array .byte) (by decide)
  obtain ⟨_, h2, _, ⟨rfl, rfl, u, Fs⟩, K2, H4⟩ := H3.callI (argsL := [.ref s]) (rest := [.ref q]) (Wr := 1) (a := q) (ct_sisb hw x.l x.nar x.kn hnar h1 q s t bs r X1 Fc Fv (F.ext E1) bb hr hcap cz O hcz) (sub1 (by simp)) (w205 hw) (w206 hw) (w7 hw) (w207 hw) d_tstr_5 pd_sisb rfl (hf := by first | (simp [b_tstr, Bx.R]; done) | (simp [b_tstr, Bx.R]; omega)) (hl := by first | (simp [b_tstr, Bx.R]; done) | (simp [b_tstr, Bx.R]; omega)) (hc := by first | (simp [b_tstr, Bx.R]; done) | (simp [b_tstr, Bx.R]; omega)) (hs := by first | (simp [b_tstr, Bx.R]; done) | (simp [b_tstr, Bx.R]; omega))
  have H4 : Hr x (b_tstr bs.length) Z EL1 2 (4 + bs.length) h2 [q] 8 #[.val (.ref s)] [.ref q] := H4
  exact H4.finA d_tstr_8 ⟨q, u, rfl, rfl, Fs⟩ sub0 (hK := by first | (simp [b_tstr, Bx.R]; done) | (simp [b_tstr, Bx.R]; omega)) (hS := by first | (simp [b_tstr, Bx.R]; done) | (simp [b_tstr, Bx.R]; omega))
def b_brac : Bx := (({ frames := 0, cells := 0, slots := 0, locals := 0 } : Room), (⟨"com/example/ortigia/ortigia/LockKeysOfPinLaw", "brace", "(C)Z"⟩ : MethodName), method_3_code, 1, (Option.some Jvm.ClassFile.FieldType.boolean))
theorem ef_brac (c : Int32) (mI : MethodId) : entryFrame mI #[.int c] 1 = mkF mI 0 #[.val (.int c)] [] := by first | (simp [entryFrame, mkF, argsToLocals, Value.category]; done) | rfl
theorem pn_com_example_ortigia_ortigia_LockKeysOfPinLaw : plainName "com/example/ortigia/ortigia/LockKeysOfPinLaw" = true := by first | (simp [plainName, overriddenIn]; done) | decide +kernel
theorem pd_brac : parseMethodDescriptor "(C)Z" = some ⟨[.char], some .boolean⟩ := by decide +kernel
set_option maxRecDepth 65536 in
set_option maxHeartbeats 4000000 in
theorem ct_brac {a0 : Array Value} {Z : State} (hw : ∀ d ∈ tables_1, d.before a0 Z = true) (l : Launch) (nar kn : Bool) (hnr : nar = false) (h0 : Heap) (c : Int32) :
    Ct l Z EL1 (⟨"com/example/ortigia/ortigia/LockKeysOfPinLaw", "brace", "(C)Z"⟩ : MethodName) method_3_code 1 (Option.some Jvm.ClassFile.FieldType.boolean) ({ frames := 0, cells := 0, slots := 0, locals := 0 } : Room) #[.int c] h0 [] nar kn (fun v h sn => v = some (.int (if c = 123 ∨ c = 125 then 1 else 0)) ∧ sn = [] ∧ h = h0) := by
  refine Ct.intro (plainFor_of_name pn_com_example_ortigia_ortigia_LockKeysOfPinLaw) (ew hw) (ef_brac c) ?_
  intro x hl hn0 hkn hsf hh H0
  have hnar : x.nar = false := hn0.trans hnr
  have H0 : Hr x b_brac Z EL1 0 0 h0 [] 0 #[.val (.int c)] [] := H0
  have H1 : Hr x b_brac Z EL1 0 0 h0 [] 1 #[.val (.int c)] [.int c] := H0.iloadN d_brac_0
  have H2 : Hr x b_brac Z EL1 0 0 h0 [] 3 #[.val (.int c)] [.int (123 : Int32), .int c] := H1.bipush d_brac_1
  by_cases q1 : c = 123
  · have z2 := q1
    have H3 : Hr x b_brac Z EL1 0 0 h0 [] 12 #[.val (.int c)] [] := H2.icmpT d_brac_3 (XT.ii_eq_t q1)
    have H4 : Hr x b_brac Z EL1 0 0 h0 [] 13 #[.val (.int c)] [.int (1 : Int32)] := H3.iconst d_brac_12
    have H5 : Hr x b_brac Z EL1 0 0 h0 [] 17 #[.val (.int c)] [.int (1 : Int32)] := H4.goto d_brac_13
    exact H5.finZ d_brac_17 (t := .boolean) (by first | rfl | decide) ⟨by rw [if_pos (Or.inl q1)], rfl, rfl⟩ sub0
  · have z5 := q1
    have H6 : Hr x b_brac Z EL1 0 0 h0 [] 6 #[.val (.int c)] [] := H2.icmpF d_brac_3 (XT.ii_eq_f q1)
    have H7 : Hr x b_brac Z EL1 0 0 h0 [] 7 #[.val (.int c)] [.int c] := H6.iloadN d_brac_6
    have H8 : Hr x b_brac Z EL1 0 0 h0 [] 9 #[.val (.int c)] [.int (125 : Int32), .int c] := H7.bipush d_brac_7
    by_cases q2 : c = 125
    · have z8 := q2
      have H9 : Hr x b_brac Z EL1 0 0 h0 [] 12 #[.val (.int c)] [] := H8.icmpF d_brac_9 (XT.ii_ne_f q2)
      have H10 : Hr x b_brac Z EL1 0 0 h0 [] 13 #[.val (.int c)] [.int (1 : Int32)] := H9.iconst d_brac_12
      have H11 : Hr x b_brac Z EL1 0 0 h0 [] 17 #[.val (.int c)] [.int (1 : Int32)] := H10.goto d_brac_13
      exact H11.finZ d_brac_17 (t := .boolean) (by first | rfl | decide) ⟨by rw [if_pos (Or.inr q2)], rfl, rfl⟩ sub0
    · have z11 := q2
      have H12 : Hr x b_brac Z EL1 0 0 h0 [] 16 #[.val (.int c)] [] := H8.icmpT d_brac_9 (XT.ii_ne_t q2)
      have H13 : Hr x b_brac Z EL1 0 0 h0 [] 17 #[.val (.int c)] [.int (0 : Int32)] := H12.iconst d_brac_16
      exact H13.finZ d_brac_17 (t := .boolean) (by first | rfl | decide) ⟨by rw [if_neg fun q => q.elim q1 q2], rfl, rfl⟩ sub0
def b_rnn : Bx := (({ frames := 0, cells := 0, slots := 0, locals := 0 } : Room), (⟨"java/util/Objects", "requireNonNull", "(Ljava/lang/Object;Ljava/lang/String;)Ljava/lang/Object;"⟩ : MethodName), jdk_31_method_11_code, 2, (Option.some (Jvm.ClassFile.FieldType.object "java/lang/Object")))
theorem ef_rnn (a m : Addr) (mI : MethodId) : entryFrame mI #[.ref a, .ref m] 2 = mkF mI 0 #[.val (.ref a), .val (.ref m)] [] := by first | (simp [entryFrame, mkF, argsToLocals, Value.category]; done) | rfl
theorem pn_java_util_Objects : plainName "java/util/Objects" = true := by first | (simp [plainName, overriddenIn]; done) | decide +kernel
theorem pd_rnn : parseMethodDescriptor "(Ljava/lang/Object;Ljava/lang/String;)Ljava/lang/Object;" = some ⟨[(.object "java/lang/Object"), (.object "java/lang/String")], some (.object "java/lang/Object")⟩ := by decide +kernel
set_option maxRecDepth 65536 in
set_option maxHeartbeats 4000000 in
theorem ct_rnn {a0 : Array Value} {Z : State} (hw : ∀ d ∈ tables_1, d.before a0 Z = true) (l : Launch) (nar kn : Bool) (hnr : nar = false) (h0 : Heap) (a m : Addr) :
    Ct l Z EL1 (⟨"java/util/Objects", "requireNonNull", "(Ljava/lang/Object;Ljava/lang/String;)Ljava/lang/Object;"⟩ : MethodName) jdk_31_method_11_code 2 (Option.some (Jvm.ClassFile.FieldType.object "java/lang/Object")) ({ frames := 0, cells := 0, slots := 0, locals := 0 } : Room) #[.ref a, .ref m] h0 [] nar kn (fun v h sn => v = some (.ref a) ∧ sn = [] ∧ h = h0) := by
  refine Ct.intro (plainFor_of_name pn_java_util_Objects) (ew hw) (ef_rnn a m) ?_
  intro x hl hn0 hkn hsf hh H0
  have hnar : x.nar = false := hn0.trans hnr
  have H0 : Hr x b_rnn Z EL1 0 0 h0 [] 0 #[.val (.ref a), .val (.ref m)] [] := H0
  have H1 : Hr x b_rnn Z EL1 0 0 h0 [] 1 #[.val (.ref a), .val (.ref m)] [.ref a] := H0.aloadN d_rnn_0
  have H2 : Hr x b_rnn Z EL1 0 0 h0 [] 13 #[.val (.ref a), .val (.ref m)] [] := H1.ifnonnullT d_rnn_1
  have H3 : Hr x b_rnn Z EL1 0 0 h0 [] 14 #[.val (.ref a), .val (.ref m)] [.ref a] := H2.aloadN d_rnn_13
  exact H3.finA d_rnn_14 ⟨rfl, rfl, rfl⟩ sub0
def b_cenI : Bx := (({ frames := 0, cells := 0, slots := 0, locals := 0 } : Room), (⟨"java/lang/StringLatin1", "canEncode", "(I)Z"⟩ : MethodName), jdk_43_method_4_code, 1, (Option.some Jvm.ClassFile.FieldType.boolean))
theorem ef_cenI (c : Int32) (mI : MethodId) : entryFrame mI #[.int c] 1 = mkF mI 0 #[.val (.int c)] [] := by first | (simp [entryFrame, mkF, argsToLocals, Value.category]; done) | rfl
theorem pd_cenI : parseMethodDescriptor "(I)Z" = some ⟨[.int], some .boolean⟩ := by decide +kernel
set_option maxRecDepth 65536 in
set_option maxHeartbeats 4000000 in
theorem ct_cenI {a0 : Array Value} {Z : State} (hw : ∀ d ∈ tables_1, d.before a0 Z = true) (l : Launch) (nar kn : Bool) (hnr : nar = false) (h0 : Heap) (c : Int32) (rc : ¬ c < 0 ∧ ¬ 255 < c) :
    Ct l Z EL1 (⟨"java/lang/StringLatin1", "canEncode", "(I)Z"⟩ : MethodName) jdk_43_method_4_code 1 (Option.some Jvm.ClassFile.FieldType.boolean) ({ frames := 0, cells := 0, slots := 0, locals := 0 } : Room) #[.int c] h0 [] nar kn (fun v h sn => v = some (.int 1) ∧ sn = [] ∧ h = h0) := by
  refine Ct.intro (plainFor_of_name pn_java_lang_StringLatin1) (ew hw) (ef_cenI c) ?_
  intro x hl hn0 hkn hsf hh H0
  have hnar : x.nar = false := hn0.trans hnr
  have H0 : Hr x b_cenI Z EL1 0 0 h0 [] 0 #[.val (.int c)] [] := H0
  have H1 : Hr x b_cenI Z EL1 0 0 h0 [] 1 #[.val (.int c)] [.int c] := H0.iloadN d_cenI_0
  have H2 : Hr x b_cenI Z EL1 0 0 h0 [] 4 #[.val (.int c)] [] := H1.ifF d_cenI_1 (XT.i0_lt_f rc.1)
  have H3 : Hr x b_cenI Z EL1 0 0 h0 [] 5 #[.val (.int c)] [.int c] := H2.iloadN d_cenI_4
  have H4 : Hr x b_cenI Z EL1 0 0 h0 [] 8 #[.val (.int c)] [.int (255 : Int32), .int c] := H3.sipush d_cenI_5
  have H5 : Hr x b_cenI Z EL1 0 0 h0 [] 11 #[.val (.int c)] [] := H4.icmpF d_cenI_8 (XT.ii_gt_f rc.2)
  have H6 : Hr x b_cenI Z EL1 0 0 h0 [] 12 #[.val (.int c)] [.int (1 : Int32)] := H5.iconst d_cenI_11
  have H7 : Hr x b_cenI Z EL1 0 0 h0 [] 16 #[.val (.int c)] [.int (1 : Int32)] := H6.goto d_cenI_12
  exact H7.finZ d_cenI_16 (t := .boolean) (by first | rfl | decide) ⟨rfl, rfl, rfl⟩ sub0
def b_mmax : Bx := (({ frames := 0, cells := 0, slots := 0, locals := 0 } : Room), (⟨"java/lang/Math", "max", "(II)I"⟩ : MethodName), jdk_29_method_65_code, 2, (Option.some Jvm.ClassFile.FieldType.int))
theorem ef_mmax  (mI : MethodId) : entryFrame mI #[.int (0 : Int32), .int (0 : Int32)] 2 = mkF mI 0 #[.val (.int (0 : Int32)), .val (.int (0 : Int32))] [] := by first | (simp [entryFrame, mkF, argsToLocals, Value.category]; done) | rfl
theorem pf_mmax : plainFor (⟨"java/lang/Math", "max", "(II)I"⟩ : MethodName) = true := by decide +kernel
theorem pd_mmax : parseMethodDescriptor "(II)I" = some ⟨[.int, .int], some .int⟩ := by decide +kernel
set_option maxRecDepth 65536 in
set_option maxHeartbeats 4000000 in
theorem ct_mmax {a0 : Array Value} {Z : State} (hw : ∀ d ∈ tables_1, d.before a0 Z = true) (l : Launch) (nar kn : Bool) (hnr : nar = false) (h0 : Heap)  :
    Ct l Z EL1 (⟨"java/lang/Math", "max", "(II)I"⟩ : MethodName) jdk_29_method_65_code 2 (Option.some Jvm.ClassFile.FieldType.int) ({ frames := 0, cells := 0, slots := 0, locals := 0 } : Room) #[.int (0 : Int32), .int (0 : Int32)] h0 [] nar kn (fun v h sn => v = some (.int 0) ∧ sn = [] ∧ h = h0) := by
  refine Ct.intro pf_mmax (ew hw) (ef_mmax ) ?_
  intro x hl hn0 hkn hsf hh H0
  have hnar : x.nar = false := hn0.trans hnr
  have H0 : Hr x b_mmax Z EL1 0 0 h0 [] 0 #[.val (.int (0 : Int32)), .val (.int (0 : Int32))] [] := H0
  have H1 : Hr x b_mmax Z EL1 0 0 h0 [] 1 #[.val (.int (0 : Int32)), .val (.int (0 : Int32))] [.int (0 : Int32)] := H0.iloadN d_mmax_0
  have H2 : Hr x b_mmax Z EL1 0 0 h0 [] 2 #[.val (.int (0 : Int32)), .val (.int (0 : Int32))] [.int (0 : Int32), .int (0 : Int32)] := H1.iloadN d_mmax_1
  have H3 : Hr x b_mmax Z EL1 0 0 h0 [] 5 #[.val (.int (0 : Int32)), .val (.int (0 : Int32))] [] := H2.icmpF d_mmax_2 (XT.ii_lt_f (by decide))
  have H4 : Hr x b_mmax Z EL1 0 0 h0 [] 6 #[.val (.int (0 : Int32)), .val (.int (0 : Int32))] [.int (0 : Int32)] := H3.iloadN d_mmax_5
  have H5 : Hr x b_mmax Z EL1 0 0 h0 [] 10 #[.val (.int (0 : Int32)), .val (.int (0 : Int32))] [.int (0 : Int32)] := H4.goto d_mmax_6
  exact H5.finI d_mmax_10 ⟨rfl, rfl, rfl⟩ sub0
def b_ioch : Bx := (({ frames := 0, cells := 0, slots := 0, locals := 0 } : Room), (⟨"java/lang/StringLatin1", "indexOfChar", "([BIII)I"⟩ : MethodName), jdk_43_method_23_code, 6, (Option.some Jvm.ClassFile.FieldType.int))
theorem ef_ioch (t : Addr) (c : Int32) (bs : List Int32) (mI : MethodId) : entryFrame mI #[.ref t, .int c, .int (0 : Int32), .int (Int32.ofNat bs.length)] 6 = mkF mI 0 #[.val (.ref t), .val (.int c), .val (.int (0 : Int32)), .val (.int (Int32.ofNat bs.length)), .unset, .unset] [] := by first | (simp [entryFrame, mkF, argsToLocals, Value.category]; done) | rfl
theorem pd_ioch : parseMethodDescriptor "([BIII)I" = some ⟨[(.array .byte), .int, .int, .int], some .int⟩ := by decide +kernel
set_option maxRecDepth 65536 in
set_option maxHeartbeats 4000000 in
theorem ct_ioch {a0 : Array Value} {Z : State} (hw : ∀ d ∈ tables_1, d.before a0 Z = true) (l : Launch) (nar kn : Bool) (hnr : nar = false) (h0 : Heap) (t : Addr) (c : Int32) (bs : List Int32) (Ft : Ar Z h0 t .byte (bs.map Value.int)) (hno : ∀ y ∈ bs, ¬ y = b8 c) :
    Ct l Z EL1 (⟨"java/lang/StringLatin1", "indexOfChar", "([BIII)I"⟩ : MethodName) jdk_43_method_23_code 6 (Option.some Jvm.ClassFile.FieldType.int) ({ frames := 0, cells := 0, slots := 0, locals := 0 } : Room) #[.ref t, .int c, .int (0 : Int32), .int (Int32.ofNat bs.length)] h0 [] nar kn (fun v h sn => v = some (.int (-1)) ∧ sn = [] ∧ h = h0) := by
  refine Ct.intro (plainFor_of_name pn_java_lang_StringLatin1) (ew hw) (ef_ioch t c bs) ?_
  intro x hl hn0 hkn hsf hh H0
  have hnar : x.nar = false := hn0.trans hnr
  have H0 : Hr x b_ioch Z EL1 0 0 h0 [] 0 #[.val (.ref t), .val (.int c), .val (.int (0 : Int32)), .val (.int (Int32.ofNat bs.length)), .unset, .unset] [] := H0
  have hlen : bs.length < 2147483648 := by simpa using Ft.len
  have H1 : Hr x b_ioch Z EL1 0 0 h0 [] 1 #[.val (.ref t), .val (.int c), .val (.int (0 : Int32)), .val (.int (Int32.ofNat bs.length)), .unset, .unset] [.int c] := H0.iloadN d_ioch_0
  have H2 : Hr x b_ioch Z EL1 0 0 h0 [] 2 #[.val (.ref t), .val (.int c), .val (.int (0 : Int32)), .val (.int (Int32.ofNat bs.length)), .unset, .unset] [.int (b8 c)] := H1.i2b d_ioch_1
  have H3 : Hr x b_ioch Z EL1 0 0 h0 [] 4 #[.val (.ref t), .val (.int c), .val (.int (0 : Int32)), .val (.int (Int32.ofNat bs.length)), .val (.int (b8 c)), .unset] [] := H2.istore d_ioch_2
  have H4 : Hr x b_ioch Z EL1 0 0 h0 [] 5 #[.val (.ref t), .val (.int c), .val (.int (0 : Int32)), .val (.int (Int32.ofNat bs.length)), .val (.int (b8 c)), .unset] [.int (0 : Int32)] := H3.iloadN d_ioch_4
  have H5 : Hr x b_ioch Z EL1 0 0 h0 [] 7 #[.val (.ref t), .val (.int c), .val (.int (0 : Int32)), .val (.int (Int32.ofNat bs.length)), .val (.int (b8 c)), .val (.int (0 : Int32))] [] := H4.istore d_ioch_5
  have loop : ∀ (k i : Nat), i + k = bs.length → Hr x b_ioch Z EL1 0 0 h0 [] 7 #[.val (.ref t), .val (.int c), .val (.int (0 : Int32)), .val (.int (Int32.ofNat bs.length)), .val (.int (b8 c)), .val (.int (Int32.ofNat i))] [] → Ends x b_ioch Z EL1 (fun v h sn => v = some (.int (-1)) ∧ sn = [] ∧ h = h0) := by
    intro k
    induction k with
    | zero =>
      intro i hi H
      obtain rfl : i = bs.length := by omega
      have H6 : Hr x b_ioch Z EL1 0 0 h0 [] 9 #[.val (.ref t), .val (.int c), .val (.int (0 : Int32)), .val (.int (Int32.ofNat bs.length)), .val (.int (b8 c)), .val (.int (Int32.ofNat bs.length))] [.int (Int32.ofNat bs.length)] := H.iload d_ioch_7
      have H7 : Hr x b_ioch Z EL1 0 0 h0 [] 10 #[.val (.ref t), .val (.int c), .val (.int (0 : Int32)), .val (.int (Int32.ofNat bs.length)), .val (.int (b8 c)), .val (.int (Int32.ofNat bs.length))] [.int (Int32.ofNat bs.length), .int (Int32.ofNat bs.length)] := H6.iloadN d_ioch_9
      have H8 : Hr x b_ioch Z EL1 0 0 h0 [] 31 #[.val (.ref t), .val (.int c), .val (.int (0 : Int32)), .val (.int (Int32.ofNat bs.length)), .val (.int (b8 c)), .val (.int (Int32.ofNat bs.length))] [] := H7.icmpT d_ioch_10 (XT.ii_ge_t (by simp))
      have H9 : Hr x b_ioch Z EL1 0 0 h0 [] 32 #[.val (.ref t), .val (.int c), .val (.int (0 : Int32)), .val (.int (Int32.ofNat bs.length)), .val (.int (b8 c)), .val (.int (Int32.ofNat bs.length))] [.int (-1 : Int32)] := H8.iconst d_ioch_31
      exact H9.finI d_ioch_32 ⟨rfl, rfl, rfl⟩ sub0
    | succ k ih =>
      intro i hi H
      have hi1 : i < bs.length := by omega
      have hlt : Int32.ofNat i < Int32.ofNat bs.length := by rw [Int32.lt_iff_toInt_lt, toInt_of rfl (by omega), toInt_of rfl (by omega)]; omega
      have H10 : Hr x b_ioch Z EL1 0 0 h0 [] 9 #[.val (.ref t), .val (.int c), .val (.int (0 : Int32)), .val (.int (Int32.ofNat bs.length)), .val (.int (b8 c)), .val (.int (Int32.ofNat i))] [.int (Int32.ofNat i)] := H.iload d_ioch_7
      have H11 : Hr x b_ioch Z EL1 0 0 h0 [] 10 #[.val (.ref t), .val (.int c), .val (.int (0 : Int32)), .val (.int (Int32.ofNat bs.length)), .val (.int (b8 c)), .val (.int (Int32.ofNat i))] [.int (Int32.ofNat bs.length), .int (Int32.ofNat i)] := H10.iloadN d_ioch_9
      have H12 : Hr x b_ioch Z EL1 0 0 h0 [] 13 #[.val (.ref t), .val (.int c), .val (.int (0 : Int32)), .val (.int (Int32.ofNat bs.length)), .val (.int (b8 c)), .val (.int (Int32.ofNat i))] [] := H11.icmpF d_ioch_10 (XT.ii_ge_f hlt)
      have H13 : Hr x b_ioch Z EL1 0 0 h0 [] 14 #[.val (.ref t), .val (.int c), .val (.int (0 : Int32)), .val (.int (Int32.ofNat bs.length)), .val (.int (b8 c)), .val (.int (Int32.ofNat i))] [.ref t] := H12.aloadN d_ioch_13
      have H14 : Hr x b_ioch Z EL1 0 0 h0 [] 16 #[.val (.ref t), .val (.int c), .val (.int (0 : Int32)), .val (.int (Int32.ofNat bs.length)), .val (.int (b8 c)), .val (.int (Int32.ofNat i))] [.int (Int32.ofNat i), .ref t] := H13.iload d_ioch_14
      have H15 : Hr x b_ioch Z EL1 0 0 h0 [] 17 #[.val (.ref t), .val (.int c), .val (.int (0 : Int32)), .val (.int (Int32.ofNat bs.length)), .val (.int (b8 c)), .val (.int (Int32.ofNat i))] [.int (bs[i])] := H14.baload Ft d_ioch_16 (i := i) rfl (by simp [hi1])
      have H16 : Hr x b_ioch Z EL1 0 0 h0 [] 19 #[.val (.ref t), .val (.int c), .val (.int (0 : Int32)), .val (.int (Int32.ofNat bs.length)), .val (.int (b8 c)), .val (.int (Int32.ofNat i))] [.int (b8 c), .int (bs[i])] := H15.iload d_ioch_17
      have H17 : Hr x b_ioch Z EL1 0 0 h0 [] 25 #[.val (.ref t), .val (.int c), .val (.int (0 : Int32)), .val (.int (Int32.ofNat bs.length)), .val (.int (b8 c)), .val (.int (Int32.ofNat i))] [] := H16.icmpT d_ioch_19 (XT.ii_ne_t (hno _ (List.getElem_mem hi1)))
      have H18 : Hr x b_ioch Z EL1 0 0 h0 [] 28 #[.val (.ref t), .val (.int c), .val (.int (0 : Int32)), .val (.int (Int32.ofNat bs.length)), .val (.int (b8 c)), .val (.int (Int32.ofNat (i + 1)))] [] := H17.iinc d_ioch_25 (v := (Int32.ofNat (i + 1))) (hv := (inc_ofNat i).symm)
      have H19 : Hr x b_ioch Z EL1 0 0 h0 [] 7 #[.val (.ref t), .val (.int c), .val (.int (0 : Int32)), .val (.int (Int32.ofNat bs.length)), .val (.int (b8 c)), .val (.int (Int32.ofNat (i + 1)))] [] := H18.goto d_ioch_28
      exact ih (i + 1) (by omega) H19
  exact loop bs.length 0 (by omega) H5
def b_lidx : Bx := (({ frames := 1, cells := 0, slots := 0, locals := 17 } : Room), (⟨"java/lang/StringLatin1", "indexOf", "([BIII)I"⟩ : MethodName), jdk_43_method_22_code, 4, (Option.some Jvm.ClassFile.FieldType.int))
theorem ef_lidx (t : Addr) (c : Int32) (bs : List Int32) (mI : MethodId) : entryFrame mI #[.ref t, .int c, .int (0 : Int32), .int (Int32.ofNat bs.length)] 4 = mkF mI 0 #[.val (.ref t), .val (.int c), .val (.int (0 : Int32)), .val (.int (Int32.ofNat bs.length))] [] := by first | (simp [entryFrame, mkF, argsToLocals, Value.category]; done) | rfl
theorem pd_lidx : parseMethodDescriptor "([BIII)I" = some ⟨[(.array .byte), .int, .int, .int], some .int⟩ := by decide +kernel
set_option maxRecDepth 65536 in
set_option maxHeartbeats 4000000 in
theorem ct_lidx {a0 : Array Value} {Z : State} (hw : ∀ d ∈ tables_1, d.before a0 Z = true) (l : Launch) (nar kn : Bool) (hnr : nar = false) (h0 : Heap) (t : Addr) (c : Int32) (bs : List Int32) (Ft : Ar Z h0 t .byte (bs.map Value.int)) (hno : ∀ y ∈ bs, ¬ y = b8 c) (rc : ¬ c < 0 ∧ ¬ 255 < c) (hpos : 0 < bs.length) :
    Ct l Z EL1 (⟨"java/lang/StringLatin1", "indexOf", "([BIII)I"⟩ : MethodName) jdk_43_method_22_code 4 (Option.some Jvm.ClassFile.FieldType.int) ({ frames := 1, cells := 0, slots := 0, locals := 17 } : Room) #[.ref t, .int c, .int (0 : Int32), .int (Int32.ofNat bs.length)] h0 [] nar kn (fun v h sn => v = some (.int (-1)) ∧ sn = [] ∧ h = h0) := by
  refine Ct.intro (plainFor_of_name pn_java_lang_StringLatin1) (ew hw) (ef_lidx t c bs) ?_
  intro x hl hn0 hkn hsf hh H0
  have hnar : x.nar = false := hn0.trans hnr
  have H0 : Hr x b_lidx Z EL1 0 0 h0 [] 0 #[.val (.ref t), .val (.int c), .val (.int (0 : Int32)), .val (.int (Int32.ofNat bs.length))] [] := H0
  have hlen : bs.length < 2147483648 := by simpa using Ft.len
  have hlt : (0 : Int32) < Int32.ofNat bs.length := by rw [Int32.lt_iff_toInt_lt, toInt_of (n := Int32.ofNat bs.length) rfl (by omega)]; have e : (0 : Int32).toInt = 0 := (by decide); omega
  have H1 : Hr x b_lidx Z EL1 0 0 h0 [] 1 #[.val (.ref t), .val (.int c), .val (.int (0 : Int32)), .val (.int (Int32.ofNat bs.length))] [.int c] := H0.iloadN d_lidx_0
  obtain ⟨_, h1, _, ⟨rfl, rfl, e1⟩, K1, H2⟩ := H1.callS (argsL := [.int c]) (rest := []) (Wr := 0) (ct_cenI hw x.l x.nar x.kn hnar h0 c rc) sub0 (w79 hw) (w80 hw) (w77 hw) (w81 hw) d_lidx_1 pd_cenI rfl (hf := by first | decide | (simp [b_lidx, Bx.R]; done) | (simp [b_lidx, Bx.R]; omega)) (hl := by first | decide | (simp [b_lidx, Bx.R]; done) | (simp [b_lidx, Bx.R]; omega)) (hc := by first | decide | (simp [b_lidx, Bx.R]; done) | (simp [b_lidx, Bx.R]; omega)) (hs := by first | decide | (simp [b_lidx, Bx.R]; done) | (simp [b_lidx, Bx.R]; omega))
  rw [e1] at H2
  have H2 : Hr x b_lidx Z EL1 0 0 h0 [] 4 #[.val (.ref t), .val (.int c), .val (.int (0 : Int32)), .val (.int (Int32.ofNat bs.length))] [.int (1 : Int32)] := H2
  have H3 : Hr x b_lidx Z EL1 0 0 h0 [] 9 #[.val (.ref t), .val (.int c), .val (.int (0 : Int32)), .val (.int (Int32.ofNat bs.length))] [] := H2.ifT d_lidx_4 (XT.i0_ne_t (by decide))
  have H4 : Hr x b_lidx Z EL1 0 0 h0 [] 10 #[.val (.ref t), .val (.int c), .val (.int (0 : Int32)), .val (.int (Int32.ofNat bs.length))] [.int (0 : Int32)] := H3.iloadN d_lidx_9
  have H5 : Hr x b_lidx Z EL1 0 0 h0 [] 11 #[.val (.ref t), .val (.int c), .val (.int (0 : Int32)), .val (.int (Int32.ofNat bs.length))] [.int (0 : Int32), .int (0 : Int32)] := H4.iconst d_lidx_10
  obtain ⟨_, h2, _, ⟨rfl, rfl, e2⟩, K2, H6⟩ := H5.callS (argsL := [.int (0 : Int32), .int (0 : Int32)]) (rest := []) (Wr := 0) (ct_mmax hw x.l x.nar x.kn hnar h0) sub0 (w82 hw) (w83 hw) (w84 hw) (w85 hw) d_lidx_11 pd_mmax rfl (hf := by first | decide | (simp [b_lidx, Bx.R]; done) | (simp [b_lidx, Bx.R]; omega)) (hl := by first | decide | (simp [b_lidx, Bx.R]; done) | (simp [b_lidx, Bx.R]; omega)) (hc := by first | decide | (simp [b_lidx, Bx.R]; done) | (simp [b_lidx, Bx.R]; omega)) (hs := by first | decide | (simp [b_lidx, Bx.R]; done) | (simp [b_lidx, Bx.R]; omega))
  rw [e2] at H6
  have H6 : Hr x b_lidx Z EL1 0 0 h0 [] 14 #[.val (.ref t), .val (.int c), .val (.int (0 : Int32)), .val (.int (Int32.ofNat bs.length))] [.int (0 : Int32)] := H6
  have H7 : Hr x b_lidx Z EL1 0 0 h0 [] 15 #[.val (.ref t), .val (.int c), .val (.int (0 : Int32)), .val (.int (Int32.ofNat bs.length))] [] := H6.istoreN d_lidx_14
  have H8 : Hr x b_lidx Z EL1 0 0 h0 [] 16 #[.val (.ref t), .val (.int c), .val (.int (0 : Int32)), .val (.int (Int32.ofNat bs.length))] [.int (Int32.ofNat bs.length)] := H7.iloadN d_lidx_15
  have H9 : Hr x b_lidx Z EL1 0 0 h0 [] 17 #[.val (.ref t), .val (.int c), .val (.int (0 : Int32)), .val (.int (Int32.ofNat bs.length))] [.ref t, .int (Int32.ofNat bs.length)] := H8.aloadN d_lidx_16
  have H10 : Hr x b_lidx Z EL1 0 0 h0 [] 18 #[.val (.ref t), .val (.int c), .val (.int (0 : Int32)), .val (.int (Int32.ofNat bs.length))] [.int (Int32.ofNat bs.length), .int (Int32.ofNat bs.length)] := H9.arraylength Ft d_lidx_17 (hn := (by simp))
  obtain ⟨_, h3, _, ⟨rfl, rfl, e3⟩, K3, H11⟩ := H10.callS (argsL := [.int (Int32.ofNat bs.length), .int (Int32.ofNat bs.length)]) (rest := []) (Wr := 0) (ct_mmin hw x.l x.nar x.kn hnar h0 bs.length bs.length (Nat.le_refl _) hlen) sub0 (w86 hw) (w87 hw) (w84 hw) (w88 hw) d_lidx_18 pd_mmin rfl (hf := by first | decide | (simp [b_lidx, Bx.R]; done) | (simp [b_lidx, Bx.R]; omega)) (hl := by first | decide | (simp [b_lidx, Bx.R]; done) | (simp [b_lidx, Bx.R]; omega)) (hc := by first | decide | (simp [b_lidx, Bx.R]; done) | (simp [b_lidx, Bx.R]; omega)) (hs := by first | decide | (simp [b_lidx, Bx.R]; done) | (simp [b_lidx, Bx.R]; omega))
  rw [e3] at H11
  have H11 : Hr x b_lidx Z EL1 0 0 h0 [] 21 #[.val (.ref t), .val (.int c), .val (.int (0 : Int32)), .val (.int (Int32.ofNat bs.length))] [.int (Int32.ofNat bs.length)] := H11
  have H12 : Hr x b_lidx Z EL1 0 0 h0 [] 22 #[.val (.ref t), .val (.int c), .val (.int (0 : Int32)), .val (.int (Int32.ofNat bs.length))] [] := H11.istoreN d_lidx_21
  have H13 : Hr x b_lidx Z EL1 0 0 h0 [] 23 #[.val (.ref t), .val (.int c), .val (.int (0 : Int32)), .val (.int (Int32.ofNat bs.length))] [.int (0 : Int32)] := H12.iloadN d_lidx_22
  have H14 : Hr x b_lidx Z EL1 0 0 h0 [] 24 #[.val (.ref t), .val (.int c), .val (.int (0 : Int32)), .val (.int (Int32.ofNat bs.length))] [.int (Int32.ofNat bs.length), .int (0 : Int32)] := H13.iloadN d_lidx_23
  have H15 : Hr x b_lidx Z EL1 0 0 h0 [] 29 #[.val (.ref t), .val (.int c), .val (.int (0 : Int32)), .val (.int (Int32.ofNat bs.length))] [] := H14.icmpT d_lidx_24 (XT.ii_lt_t hlt)
  have H16 : Hr x b_lidx Z EL1 0 0 h0 [] 30 #[.val (.ref t), .val (.int c), .val (.int (0 : Int32)), .val (.int (Int32.ofNat bs.length))] [.ref t] := H15.aloadN d_lidx_29
  have H17 : Hr x b_lidx Z EL1 0 0 h0 [] 31 #[.val (.ref t), .val (.int c), .val (.int (0 : Int32)), .val (.int (Int32.ofNat bs.length))] [.int c, .ref t] := H16.iloadN d_lidx_30
  have H18 : Hr x b_lidx Z EL1 0 0 h0 [] 32 #[.val (.ref t), .val (.int c), .val (.int (0 : Int32)), .val (.int (Int32.ofNat bs.length))] [.int (0 : Int32), .int c, .ref t] := H17.iloadN d_lidx_31
  have H19 : Hr x b_lidx Z EL1 0 0 h0 [] 33 #[.val (.ref t), .val (.int c), .val (.int (0 : Int32)), .val (.int (Int32.ofNat bs.length))] [.int (Int32.ofNat bs.length), .int (0 : Int32), .int c, .ref t] := H18.iloadN d_lidx_32
  obtain ⟨_, h4, _, ⟨rfl, rfl, e4⟩, K4, H20⟩ := H19.callS (argsL := [.ref t, .int c, .int (0 : Int32), .int (Int32.ofNat bs.length)]) (rest := []) (Wr := 0) (ct_ioch hw x.l x.nar x.kn hnar h0 t c bs Ft hno) sub0 (w89 hw) (w90 hw) (w77 hw) (w91 hw) d_lidx_33 pd_ioch rfl (hf := by first | decide | (simp [b_lidx, Bx.R]; done) | (simp [b_lidx, Bx.R]; omega)) (hl := by first | decide | (simp [b_lidx, Bx.R]; done) | (simp [b_lidx, Bx.R]; omega)) (hc := by first | decide | (simp [b_lidx, Bx.R]; done) | (simp [b_lidx, Bx.R]; omega)) (hs := by first | decide | (simp [b_lidx, Bx.R]; done) | (simp [b_lidx, Bx.R]; omega))
  rw [e4] at H20
  have H20 : Hr x b_lidx Z EL1 0 0 h0 [] 36 #[.val (.ref t), .val (.int c), .val (.int (0 : Int32)), .val (.int (Int32.ofNat bs.length))] [.int (-1 : Int32)] := H20
  exact H20.finI d_lidx_36 ⟨rfl, rfl, rfl⟩ sub0
def b_six2 : Bx := (({ frames := 2, cells := 0, slots := 0, locals := 32 } : Room), (⟨"java/lang/String", "indexOf", "(II)I"⟩ : MethodName), jdk_42_method_80_code, 3, (Option.some Jvm.ClassFile.FieldType.int))
theorem ef_six2 (a : Addr) (c : Int32) (mI : MethodId) : entryFrame mI #[.ref a, .int c, .int (0 : Int32)] 3 = mkF mI 0 #[.val (.ref a), .val (.int c), .val (.int (0 : Int32))] [] := by first | (simp [entryFrame, mkF, argsToLocals, Value.category]; done) | rfl
theorem pd_six2 : parseMethodDescriptor "(II)I" = some ⟨[.int, .int], some .int⟩ := by decide +kernel
set_option maxRecDepth 65536 in
set_option maxHeartbeats 4000000 in
theorem ct_six2 {a0 : Array Value} {Z : State} (hw : ∀ d ∈ tables_1, d.before a0 Z = true) (l : Launch) (nar kn : Bool) (hnr : nar = false) (h0 : Heap) (a t : Addr) (c : Int32) (bs : List Int32) (Fa : Str Z h0 a t bs) (hno : ∀ y ∈ bs, ¬ y = b8 c) (rc : ¬ c < 0 ∧ ¬ 255 < c) (hpos : 0 < bs.length) (cz : Int32) (O : Sta Z Z.heap "java/lang/String" "COMPACT_STRINGS" "Z" (.int cz)) (hcz : ¬ cz = 0) :
    Ct l Z EL1 (⟨"java/lang/String", "indexOf", "(II)I"⟩ : MethodName) jdk_42_method_80_code 3 (Option.some Jvm.ClassFile.FieldType.int) ({ frames := 2, cells := 0, slots := 0, locals := 32 } : Room) #[.ref a, .int c, .int (0 : Int32)] h0 [] nar kn (fun v h sn => v = some (.int (-1)) ∧ sn = [] ∧ h = h0) := by
  refine Ct.intro (plainFor_of_name pn_java_lang_String) (ew hw) (ef_six2 a c) ?_
  intro x hl hn0 hkn hsf hh H0
  have hnar : x.nar = false := hn0.trans hnr
  have H0 : Hr x b_six2 Z EL1 0 0 h0 [] 0 #[.val (.ref a), .val (.int c), .val (.int (0 : Int32))] [] := H0
  have H1 : Hr x b_six2 Z EL1 0 0 h0 [] 1 #[.val (.ref a), .val (.int c), .val (.int (0 : Int32))] [.ref a] := H0.aloadN d_six2_0
  obtain ⟨_, h1, _, ⟨rfl, rfl, e1⟩, K1, H2⟩ := H1.callV (argsL := []) (rest := []) (Wr := 0) (a := a) (ct_sil1 hw x.l x.nar x.kn hnar h0 a t bs Fa cz O hcz) sub0 Fa.1 (w60 hw) (w61 hw) (w63 hw) (w63 hw) (w62 hw) (w7 hw) (w64 hw) d_six2_1 pd_sil1 rfl (hf := by first | decide | (simp [b_six2, Bx.R]; done) | (simp [b_six2, Bx.R]; omega)) (hl := by first | decide | (simp [b_six2, Bx.R]; done) | (simp [b_six2, Bx.R]; omega)) (hc := by first | decide | (simp [b_six2, Bx.R]; done) | (simp [b_six2, Bx.R]; omega)) (hs := by first | decide | (simp [b_six2, Bx.R]; done) | (simp [b_six2, Bx.R]; omega))
  rw [e1] at H2
  have H2 : Hr x b_six2 Z EL1 0 0 h0 [] 4 #[.val (.ref a), .val (.int c), .val (.int (0 : Int32))] [.int (1 : Int32)] := H2
  have H3 : Hr x b_six2 Z EL1 0 0 h0 [] 7 #[.val (.ref a), .val (.int c), .val (.int (0 : Int32))] [] := H2.ifF d_six2_4 (XT.i0_eq_f (by decide))
  have H4 : Hr x b_six2 Z EL1 0 0 h0 [] 8 #[.val (.ref a), .val (.int c), .val (.int (0 : Int32))] [.ref a] := H3.aloadN d_six2_7
  have H5 : Hr x b_six2 Z EL1 0 0 h0 [] 11 #[.val (.ref a), .val (.int c), .val (.int (0 : Int32))] [.ref t] := H4.getF (w32 hw) Fa.2.2.1 d_six2_8
  have H6 : Hr x b_six2 Z EL1 0 0 h0 [] 12 #[.val (.ref a), .val (.int c), .val (.int (0 : Int32))] [.int c, .ref t] := H5.iloadN d_six2_11
  have H7 : Hr x b_six2 Z EL1 0 0 h0 [] 13 #[.val (.ref a), .val (.int c), .val (.int (0 : Int32))] [.int (0 : Int32), .int c, .ref t] := H6.iloadN d_six2_12
  have H8 : Hr x b_six2 Z EL1 0 0 h0 [] 14 #[.val (.ref a), .val (.int c), .val (.int (0 : Int32))] [.ref a, .int (0 : Int32), .int c, .ref t] := H7.aloadN d_six2_13
  obtain ⟨_, h2, _, ⟨rfl, rfl, e2⟩, K2, H9⟩ := H8.callV (argsL := []) (rest := [.int (0 : Int32), .int c, .ref t]) (Wr := 3) (a := a) (ct_slen hw x.l x.nar x.kn hnar h0 a t bs Fa cz O hcz) sub0 Fa.1 (w65 hw) (w66 hw) (w68 hw) (w68 hw) (w67 hw) (w7 hw) (w69 hw) d_six2_14 pd_slen rfl (hf := by first | decide | (simp [b_six2, Bx.R]; done) | (simp [b_six2, Bx.R]; omega)) (hl := by first | decide | (simp [b_six2, Bx.R]; done) | (simp [b_six2, Bx.R]; omega)) (hc := by first | decide | (simp [b_six2, Bx.R]; done) | (simp [b_six2, Bx.R]; omega)) (hs := by first | decide | (simp [b_six2, Bx.R]; done) | (simp [b_six2, Bx.R]; omega))
  rw [e2] at H9
  have H9 : Hr x b_six2 Z EL1 0 0 h0 [] 17 #[.val (.ref a), .val (.int c), .val (.int (0 : Int32))] [.int (Int32.ofNat bs.length), .int (0 : Int32), .int c, .ref t] := H9
  obtain ⟨_, h3, _, ⟨rfl, rfl, e3⟩, K3, H10⟩ := H9.callS (argsL := [.ref t, .int c, .int (0 : Int32), .int (Int32.ofNat bs.length)]) (rest := []) (Wr := 0) (ct_lidx hw x.l x.nar x.kn hnar h0 t c bs Fa.2.2.2 hno rc hpos) sub0 (w75 hw) (w76 hw) (w77 hw) (w78 hw) d_six2_17 pd_lidx rfl (hf := by first | decide | (simp [b_six2, Bx.R]; done) | (simp [b_six2, Bx.R]; omega)) (hl := by first | decide | (simp [b_six2, Bx.R]; done) | (simp [b_six2, Bx.R]; omega)) (hc := by first | decide | (simp [b_six2, Bx.R]; done) | (simp [b_six2, Bx.R]; omega)) (hs := by first | decide | (simp [b_six2, Bx.R]; done) | (simp [b_six2, Bx.R]; omega))
  rw [e3] at H10
  have H10 : Hr x b_six2 Z EL1 0 0 h0 [] 20 #[.val (.ref a), .val (.int c), .val (.int (0 : Int32))] [.int (-1 : Int32)] := H10
  have H11 : Hr x b_six2 Z EL1 0 0 h0 [] 36 #[.val (.ref a), .val (.int c), .val (.int (0 : Int32))] [.int (-1 : Int32)] := H10.goto d_six2_20
  exact H11.finI d_six2_36 ⟨rfl, rfl, rfl⟩ sub0
def b_six1 : Bx := (({ frames := 3, cells := 0, slots := 0, locals := 46 } : Room), (⟨"java/lang/String", "indexOf", "(I)I"⟩ : MethodName), jdk_42_method_79_code, 2, (Option.some Jvm.ClassFile.FieldType.int))
theorem ef_six1 (a : Addr) (c : Int32) (mI : MethodId) : entryFrame mI #[.ref a, .int c] 2 = mkF mI 0 #[.val (.ref a), .val (.int c)] [] := by first | (simp [entryFrame, mkF, argsToLocals, Value.category]; done) | rfl
theorem pd_six1 : parseMethodDescriptor "(I)I" = some ⟨[.int], some .int⟩ := by decide +kernel
set_option maxRecDepth 65536 in
set_option maxHeartbeats 4000000 in
theorem ct_six1 {a0 : Array Value} {Z : State} (hw : ∀ d ∈ tables_1, d.before a0 Z = true) (l : Launch) (nar kn : Bool) (hnr : nar = false) (h0 : Heap) (a t : Addr) (c : Int32) (bs : List Int32) (Fa : Str Z h0 a t bs) (hno : ∀ y ∈ bs, ¬ y = b8 c) (rc : ¬ c < 0 ∧ ¬ 255 < c) (hpos : 0 < bs.length) (cz : Int32) (O : Sta Z Z.heap "java/lang/String" "COMPACT_STRINGS" "Z" (.int cz)) (hcz : ¬ cz = 0) :
    Ct l Z EL1 (⟨"java/lang/String", "indexOf", "(I)I"⟩ : MethodName) jdk_42_method_79_code 2 (Option.some Jvm.ClassFile.FieldType.int) ({ frames := 3, cells := 0, slots := 0, locals := 46 } : Room) #[.ref a, .int c] h0 [] nar kn (fun v h sn => v = some (.int (-1)) ∧ sn = [] ∧ h = h0) := by
  refine Ct.intro (plainFor_of_name pn_java_lang_String) (ew hw) (ef_six1 a c) ?_
  intro x hl hn0 hkn hsf hh H0
  have hnar : x.nar = false := hn0.trans hnr
  have H0 : Hr x b_six1 Z EL1 0 0 h0 [] 0 #[.val (.ref a), .val (.int c)] [] := H0
  have H1 : Hr x b_six1 Z EL1 0 0 h0 [] 1 #[.val (.ref a), .val (.int c)] [.ref a] := H0.aloadN d_six1_0
  have H2 : Hr x b_six1 Z EL1 0 0 h0 [] 2 #[.val (.ref a), .val (.int c)] [.int c, .ref a] := H1.iloadN d_six1_1
  have H3 : Hr x b_six1 Z EL1 0 0 h0 [] 3 #[.val (.ref a), .val (.int c)] [.int (0 : Int32), .int c, .ref a] := H2.iconst d_six1_2
  obtain ⟨_, h1, _, ⟨rfl, rfl, e1⟩, K1, H4⟩ := H3.callV (argsL := [.int c, .int (0 : Int32)]) (rest := []) (Wr := 0) (a := a) (ct_six2 hw x.l x.nar x.kn hnar h0 a t c bs Fa hno rc hpos cz O hcz) sub0 Fa.1 (w55 hw) (w56 hw) (w58 hw) (w58 hw) (w57 hw) (w7 hw) (w59 hw) d_six1_3 pd_six2 rfl (hf := by first | decide | (simp [b_six1, Bx.R]; done) | (simp [b_six1, Bx.R]; omega)) (hl := by first | decide | (simp [b_six1, Bx.R]; done) | (simp [b_six1, Bx.R]; omega)) (hc := by first | decide | (simp [b_six1, Bx.R]; done) | (simp [b_six1, Bx.R]; omega)) (hs := by first | decide | (simp [b_six1, Bx.R]; done) | (simp [b_six1, Bx.R]; omega))
  rw [e1] at H4
  have H4 : Hr x b_six1 Z EL1 0 0 h0 [] 6 #[.val (.ref a), .val (.int c)] [.int (-1 : Int32)] := H4
  exact H4.finI d_six1_6 ⟨rfl, rfl, rfl⟩ sub0
def tNa : List Int32 := [110, 97, 109, 101]
def tFe : List Int32 := [102, 101, 110, 99, 101]
def tRe : List Int32 := [114, 101, 108, 101, 97, 115, 101, 100]
def tWa : List Int32 := [119, 97, 105, 116, 101, 114, 115]
def tOp : List Int32 := [123]
def tCl : List Int32 := [125, 58]
def b_kini : Bx := (({ frames := 1, cells := 0, slots := 0, locals := 12 } : Room), (⟨"com/example/ortigia/ortigia/LockKeys", "<init>", "(Ljava/lang/String;)V"⟩ : MethodName), prog_4_method_1_code, 2, (Option.none : Option Jvm.ClassFile.FieldType))
theorem ef_kini (s a : Addr) (mI : MethodId) : entryFrame mI #[.ref s, .ref a] 2 = mkF mI 0 #[.val (.ref s), .val (.ref a)] [] := by first | (simp [entryFrame, mkF, argsToLocals, Value.category]; done) | rfl
theorem pn_com_example_ortigia_ortigia_LockKeys : plainName "com/example/ortigia/ortigia/LockKeys" = true := by first | (simp [plainName, overriddenIn]; done) | decide +kernel
theorem pd_kini : parseMethodDescriptor "(Ljava/lang/String;)V" = some ⟨[(.object "java/lang/String")], none⟩ := by decide +kernel
set_option maxRecDepth 65536 in
set_option maxHeartbeats 4000000 in
theorem ct_kini {a0 : Array Value} {Z : State} (hw : ∀ d ∈ tables_1, d.before a0 Z = true) (l : Launch) (nar kn : Bool) (hnr : nar = false) (h0 : Heap) (s a : Addr) (Es : Exa Z h0 s "com/example/ortigia/ortigia/LockKeys") (F0 : Fld Z h0 s "com/example/ortigia/ortigia/LockKeys" "name" "Ljava/lang/String;" .null) :
    Ct l Z EL1 (⟨"com/example/ortigia/ortigia/LockKeys", "<init>", "(Ljava/lang/String;)V"⟩ : MethodName) prog_4_method_1_code 2 (Option.none : Option Jvm.ClassFile.FieldType) ({ frames := 1, cells := 0, slots := 0, locals := 12 } : Room) #[.ref s, .ref a] h0 [s] nar kn (fun v h sn => v = none ∧ sn = [] ∧ Exa Z h s "com/example/ortigia/ortigia/LockKeys" ∧ Fld Z h s "com/example/ortigia/ortigia/LockKeys" "name" "Ljava/lang/String;" (.ref a)) := by
  refine Ct.intro (plainFor_of_name pn_com_example_ortigia_ortigia_LockKeys) (ew hw) (ef_kini s a) ?_
  intro x hl hn0 hkn hsf hh H0
  have hnar : x.nar = false := hn0.trans hnr
  have H0 : Hr x b_kini Z EL1 0 0 h0 [s] 0 #[.val (.ref s), .val (.ref a)] [] := H0
  have H1 : Hr x b_kini Z EL1 0 0 h0 [s] 1 #[.val (.ref s), .val (.ref a)] [.ref s] := H0.aloadN d_kini_0
  have H2 : Hr x b_kini Z EL1 0 0 h0 [s] 4 #[.val (.ref s), .val (.ref a)] [] := H1.initO (Wr := 0) (w97 hw) (w16 hw) (w17 hw) d_kini_1 (hf := by first | decide | (simp [b_kini, Bx.R]; done) | (simp [b_kini, Bx.R]; omega)) (hl := by first | decide | (simp [b_kini, Bx.R]; done) | (simp [b_kini, Bx.R]; omega))
  have H3 : Hr x b_kini Z EL1 0 0 h0 [s] 5 #[.val (.ref s), .val (.ref a)] [.ref s] := H2.aloadN d_kini_4
  have H4 : Hr x b_kini Z EL1 0 0 h0 [s] 6 #[.val (.ref s), .val (.ref a)] [.ref a, .ref s] := H3.aloadN d_kini_5
  obtain ⟨h1, W1, H5⟩ := H4.putF (by simp) (w98 hw) F0 Es (Or.inr ⟨(w99 hw), rfl, rfl⟩) (w93 hw) d_kini_6 (ty := (.object "java/lang/String"))
  have H5 : Hr x b_kini Z EL1 0 0 h1 [s] 9 #[.val (.ref s), .val (.ref a)] [] := H5
  exact H5.finN d_kini_9 rfl (by decide) (by decide) sub0 ⟨rfl, rfl, Es.wr W1, Fld.same W1 F0⟩
def b_lkey : Bx := (({ frames := 0, cells := 0, slots := 0, locals := 0 } : Room), (⟨"com/example/ortigia/ortigia/LockKeys", "lockKey", "()Ljava/lang/String;"⟩ : MethodName), prog_4_method_3_code, 1, (Option.some (Jvm.ClassFile.FieldType.object "java/lang/String")))
theorem ef_lkey (s : Addr) (mI : MethodId) : entryFrame mI #[.ref s] 1 = mkF mI 0 #[.val (.ref s)] [] := by first | (simp [entryFrame, mkF, argsToLocals, Value.category]; done) | rfl
theorem pd_lkey : parseMethodDescriptor "()Ljava/lang/String;" = some ⟨[], some (.object "java/lang/String")⟩ := by decide +kernel
set_option maxRecDepth 65536 in
set_option maxHeartbeats 4000000 in
theorem ct_lkey {a0 : Array Value} {Z : State} (hw : ∀ d ∈ tables_1, d.before a0 Z = true) (l : Launch) (nar kn : Bool) (hnr : nar = false) (h0 : Heap) (s a : Addr) (F0 : Fld Z h0 s "com/example/ortigia/ortigia/LockKeys" "name" "Ljava/lang/String;" (.ref a)) :
    Ct l Z EL1 (⟨"com/example/ortigia/ortigia/LockKeys", "lockKey", "()Ljava/lang/String;"⟩ : MethodName) prog_4_method_3_code 1 (Option.some (Jvm.ClassFile.FieldType.object "java/lang/String")) ({ frames := 0, cells := 0, slots := 0, locals := 0 } : Room) #[.ref s] h0 [] nar kn (fun v h sn => v = some (.ref a) ∧ sn = [] ∧ h = h0) := by
  refine Ct.intro (plainFor_of_name pn_com_example_ortigia_ortigia_LockKeys) (ew hw) (ef_lkey s) ?_
  intro x hl hn0 hkn hsf hh H0
  have hnar : x.nar = false := hn0.trans hnr
  have H0 : Hr x b_lkey Z EL1 0 0 h0 [] 0 #[.val (.ref s)] [] := H0
  have H1 : Hr x b_lkey Z EL1 0 0 h0 [] 1 #[.val (.ref s)] [.ref s] := H0.aloadN d_lkey_0
  have H2 : Hr x b_lkey Z EL1 0 0 h0 [] 4 #[.val (.ref s)] [.ref a] := H1.getF (w98 hw) F0 d_lkey_1
  exact H2.finA d_lkey_4 ⟨rfl, rfl, rfl⟩ sub0
def b_kof : Bx := (({ frames := 4, cells := 3, slots := 21, locals := 59 } : Room), (⟨"com/example/ortigia/ortigia/LockKeys", "of", "(Ljava/lang/String;)Lcom/example/ortigia/ortigia/LockKeys;"⟩ : MethodName), prog_4_method_2_code, 1, (Option.some (Jvm.ClassFile.FieldType.object "com/example/ortigia/ortigia/LockKeys")))
theorem ef_kof (a : Addr) (mI : MethodId) : entryFrame mI #[.ref a] 1 = mkF mI 0 #[.val (.ref a)] [] := by first | (simp [entryFrame, mkF, argsToLocals, Value.category]; done) | rfl
theorem pd_kof : parseMethodDescriptor "(Ljava/lang/String;)Lcom/example/ortigia/ortigia/LockKeys;" = some ⟨[(.object "java/lang/String")], some (.object "com/example/ortigia/ortigia/LockKeys")⟩ := by decide +kernel
set_option maxRecDepth 65536 in
set_option maxHeartbeats 4000000 in
theorem ct_kof {a0 : Array Value} {Z : State} (hw : ∀ d ∈ tables_1, d.before a0 Z = true) (l : Launch) (nar kn : Bool) (hnr : nar = false) (h0 : Heap) (a t : Addr) (bs : List Int32) (Fa : Str Z h0 a t bs) (hno : ∀ y ∈ bs, ¬ y = b8 123 ∧ ¬ y = b8 125) (hpos : 0 < bs.length) (cz : Int32) (O : Sta Z Z.heap "java/lang/String" "COMPACT_STRINGS" "Z" (.int cz)) (hcz : ¬ cz = 0) :
    Ct l Z EL1 (⟨"com/example/ortigia/ortigia/LockKeys", "of", "(Ljava/lang/String;)Lcom/example/ortigia/ortigia/LockKeys;"⟩ : MethodName) prog_4_method_2_code 1 (Option.some (Jvm.ClassFile.FieldType.object "com/example/ortigia/ortigia/LockKeys")) ({ frames := 4, cells := 3, slots := 21, locals := 59 } : Room) #[.ref a] h0 [] nar kn (fun v h sn => ∃ s, v = some (.ref s) ∧ sn = [] ∧ h0.size ≤ s ∧ Exa Z h s "com/example/ortigia/ortigia/LockKeys" ∧ Fld Z h s "com/example/ortigia/ortigia/LockKeys" "name" "Ljava/lang/String;" (.ref a)) := by
  refine Ct.intro (plainFor_of_name pn_com_example_ortigia_ortigia_LockKeys) (ew hw) (ef_kof a) ?_
  intro x hl hn0 hkn hsf hh H0
  have hnar : x.nar = false := hn0.trans hnr
  have H0 : Hr x b_kof Z EL1 0 0 h0 [] 0 #[.val (.ref a)] [] := H0
  have H1 : Hr x b_kof Z EL1 0 0 h0 [] 1 #[.val (.ref a)] [.ref a] := H0.aloadN d_kof_0
  obtain ⟨la, lu, h1, E1, L1_, n1, H2⟩ := H1.ldcS (n := 16) (bs := tNa) (z := 4) (w38 hw) (wStr hw) (ew hw) (by decide) (by decide) (by decide) (by decide) d_kof_1 (by decide) (by decide) hnar (by first | decide | (simp [b_kof, Bx.R]; done) | (simp [b_kof, Bx.R]; omega)) (by first | decide | (simp [b_kof, Bx.R]; done) | (simp [b_kof, Bx.R]; omega))
  have H2 : Hr x b_kof Z EL1 2 20 h1 [] 3 #[.val (.ref a)] [.ref la, .ref a] := H2
  obtain ⟨_, h2, _, ⟨rfl, rfl, e2⟩, K2, H3⟩ := H2.callS (argsL := [.ref a, .ref la]) (rest := []) (Wr := 0) (ct_rnn hw x.l x.nar x.kn hnar h1 a la) sub0 (w41 hw) (w42 hw) (w43 hw) (w44 hw) d_kof_3 pd_rnn rfl (hf := by first | decide | (simp [b_kof, Bx.R]; done) | (simp [b_kof, Bx.R]; omega)) (hl := by first | decide | (simp [b_kof, Bx.R]; done) | (simp [b_kof, Bx.R]; omega)) (hc := by first | decide | (simp [b_kof, Bx.R]; done) | (simp [b_kof, Bx.R]; omega)) (hs := by first | decide | (simp [b_kof, Bx.R]; done) | (simp [b_kof, Bx.R]; omega))
  rw [e2] at H3
  have H3 : Hr x b_kof Z EL1 2 20 h1 [] 6 #[.val (.ref a)] [.ref a] := H3
  have Fb := Fa.ext E1
  have H4 : Hr x b_kof Z EL1 2 20 h1 [] 7 #[.val (.ref a)] [] := H3.pop d_kof_6
  have H5 : Hr x b_kof Z EL1 2 20 h1 [] 8 #[.val (.ref a)] [.ref a] := H4.aloadN d_kof_7
  obtain ⟨_, h3, _, ⟨rfl, rfl, e3⟩, K3, H6⟩ := H5.callV (argsL := []) (rest := []) (Wr := 0) (a := a) (ct_semp hw x.l x.nar x.kn hnar h1 a t bs Fb cz O hcz (fun q => by rw [q] at hpos; exact absurd hpos (by decide))) sub0 Fb.1 (w45 hw) (w46 hw) (w48 hw) (w48 hw) (w47 hw) (w7 hw) (w49 hw) d_kof_8 pd_semp rfl (hf := by first | decide | (simp [b_kof, Bx.R]; done) | (simp [b_kof, Bx.R]; omega)) (hl := by first | decide | (simp [b_kof, Bx.R]; done) | (simp [b_kof, Bx.R]; omega)) (hc := by first | decide | (simp [b_kof, Bx.R]; done) | (simp [b_kof, Bx.R]; omega)) (hs := by first | decide | (simp [b_kof, Bx.R]; done) | (simp [b_kof, Bx.R]; omega))
  rw [e3] at H6
  have H6 : Hr x b_kof Z EL1 2 20 h1 [] 11 #[.val (.ref a)] [.int (0 : Int32)] := H6
  have H7 : Hr x b_kof Z EL1 2 20 h1 [] 24 #[.val (.ref a)] [] := H6.ifT d_kof_11 (XT.i0_eq_t rfl)
  have H8 : Hr x b_kof Z EL1 2 20 h1 [] 25 #[.val (.ref a)] [.ref a] := H7.aloadN d_kof_24
  have H9 : Hr x b_kof Z EL1 2 20 h1 [] 27 #[.val (.ref a)] [.int (123 : Int32), .ref a] := H8.bipush d_kof_25
  obtain ⟨_, h4, _, ⟨rfl, rfl, e4⟩, K4, H10⟩ := H9.callV (argsL := [.int (123 : Int32)]) (rest := []) (Wr := 0) (a := a) (ct_six1 hw x.l x.nar x.kn hnar h1 a t 123 bs Fb (fun y hy => (hno y hy).1) (by decide) hpos cz O hcz) sub0 Fb.1 (w50 hw) (w51 hw) (w53 hw) (w53 hw) (w52 hw) (w7 hw) (w54 hw) d_kof_27 pd_six1 rfl (hf := by first | decide | (simp [b_kof, Bx.R]; done) | (simp [b_kof, Bx.R]; omega)) (hl := by first | decide | (simp [b_kof, Bx.R]; done) | (simp [b_kof, Bx.R]; omega)) (hc := by first | decide | (simp [b_kof, Bx.R]; done) | (simp [b_kof, Bx.R]; omega)) (hs := by first | decide | (simp [b_kof, Bx.R]; done) | (simp [b_kof, Bx.R]; omega))
  rw [e4] at H10
  have H10 : Hr x b_kof Z EL1 2 20 h1 [] 30 #[.val (.ref a)] [.int (-1 : Int32)] := H10
  have H11 : Hr x b_kof Z EL1 2 20 h1 [] 33 #[.val (.ref a)] [] := H10.ifF d_kof_30 (XT.i0_ge_f (by decide))
  have H12 : Hr x b_kof Z EL1 2 20 h1 [] 34 #[.val (.ref a)] [.ref a] := H11.aloadN d_kof_33
  have H13 : Hr x b_kof Z EL1 2 20 h1 [] 36 #[.val (.ref a)] [.int (125 : Int32), .ref a] := H12.bipush d_kof_34
  obtain ⟨_, h5, _, ⟨rfl, rfl, e5⟩, K5, H14⟩ := H13.callV (argsL := [.int (125 : Int32)]) (rest := []) (Wr := 0) (a := a) (ct_six1 hw x.l x.nar x.kn hnar h1 a t 125 bs Fb (fun y hy => (hno y hy).2) (by decide) hpos cz O hcz) sub0 Fb.1 (w50 hw) (w51 hw) (w53 hw) (w53 hw) (w52 hw) (w7 hw) (w54 hw) d_kof_36 pd_six1 rfl (hf := by first | decide | (simp [b_kof, Bx.R]; done) | (simp [b_kof, Bx.R]; omega)) (hl := by first | decide | (simp [b_kof, Bx.R]; done) | (simp [b_kof, Bx.R]; omega)) (hc := by first | decide | (simp [b_kof, Bx.R]; done) | (simp [b_kof, Bx.R]; omega)) (hs := by first | decide | (simp [b_kof, Bx.R]; done) | (simp [b_kof, Bx.R]; omega))
  rw [e5] at H14
  have H14 : Hr x b_kof Z EL1 2 20 h1 [] 39 #[.val (.ref a)] [.int (-1 : Int32)] := H14
  have H15 : Hr x b_kof Z EL1 2 20 h1 [] 69 #[.val (.ref a)] [] := H14.ifT d_kof_39 (XT.i0_lt_t (by decide))
  obtain ⟨h6, E6, ⟨X6, D6, U6⟩, H16⟩ := H15.new (w92 hw) (w93 hw) (w36 hw) d_kof_69 (by first | decide | (simp [b_kof, Bx.R]; done) | (simp [b_kof, Bx.R]; omega)) (by first | decide | (simp [b_kof, Bx.R]; done) | (simp [b_kof, Bx.R]; omega))
  obtain ⟨s, g_s⟩ : ∃ z, z = h1.size := ⟨_, rfl⟩
  rw [← g_s] at X6 D6 U6 H16
  have H16 : Hr x b_kof Z EL1 3 21 h6 [s] 72 #[.val (.ref a)] [.ref s] := H16
  have H17 : Hr x b_kof Z EL1 3 21 h6 [s] 73 #[.val (.ref a)] [.ref s, .ref s] := H16.dup d_kof_72
  have H18 : Hr x b_kof Z EL1 3 21 h6 [s] 74 #[.val (.ref a)] [.ref a, .ref s, .ref s] := H17.aloadN d_kof_73
  have F6 : Fld Z h6 s "com/example/ortigia/ortigia/LockKeys" "name" "Ljava/lang/String;" .null := D6 (Or.inr (w99 hw)) (ty := .object "java/lang/String") (by decide)
  obtain ⟨_, h7, _, ⟨rfl, rfl, X7, F7⟩, K7, H19⟩ := H18.callI (argsL := [.ref a]) (rest := [.ref s]) (Wr := 1) (a := s) (ct_kini hw x.l x.nar x.kn hnar h6 s a X6 F6) (sub1 (by simp)) (w94 hw) (w95 hw) (w36 hw) (w96 hw) d_kof_74 pd_kini rfl (hf := by first | decide | (simp [b_kof, Bx.R]; done) | (simp [b_kof, Bx.R]; omega)) (hl := by first | decide | (simp [b_kof, Bx.R]; done) | (simp [b_kof, Bx.R]; omega)) (hc := by first | decide | (simp [b_kof, Bx.R]; done) | (simp [b_kof, Bx.R]; omega)) (hs := by first | decide | (simp [b_kof, Bx.R]; done) | (simp [b_kof, Bx.R]; omega))
  have H19 : Hr x b_kof Z EL1 3 21 h7 [s] 77 #[.val (.ref a)] [.ref s] := H19
  exact H19.finA d_kof_77 ⟨s, rfl, rfl, by have := E1.1; omega, X7, F7⟩ sub0
def b_htag : Bx := (({ frames := 6, cells := 8, slots := 72, locals := 91 } : Room), (⟨"com/example/ortigia/ortigia/LockKeys", "hashTagged", "(Ljava/lang/String;)Ljava/lang/String;"⟩ : MethodName), prog_4_method_7_code, 2, (Option.some (Jvm.ClassFile.FieldType.object "java/lang/String")))
theorem ef_htag (s a : Addr) (mI : MethodId) : entryFrame mI #[.ref s, .ref a] 2 = mkF mI 0 #[.val (.ref s), .val (.ref a)] [] := by first | (simp [entryFrame, mkF, argsToLocals, Value.category]; done) | rfl
theorem pd_htag : parseMethodDescriptor "(Ljava/lang/String;)Ljava/lang/String;" = some ⟨[(.object "java/lang/String")], some (.object "java/lang/String")⟩ := by decide +kernel
set_option maxRecDepth 65536 in
set_option maxHeartbeats 4000000 in
theorem ct_htag {a0 : Array Value} {Z : State} (hw : ∀ d ∈ tables_1, d.before a0 Z = true) (l : Launch) (nar kn : Bool) (hnr : nar = false) (h0 : Heap) (s c k a u : Addr) (bs ds : List Int32) (Fn : Fld Z h0 s "com/example/ortigia/ortigia/LockKeys" "name" "Ljava/lang/String;" (.ref c)) (Fb : Str Z h0 c k bs) (Fd : Str Z h0 a u ds) (bb : BL bs) (bd : BL ds) (hb4 : bs.length ≤ 4) (hd8 : ds.length ≤ 8) (cz : Int32) (O : Sta Z Z.heap "java/lang/String" "COMPACT_STRINGS" "Z" (.int cz)) (hcz : ¬ cz = 0) :
    Ct l Z EL1 (⟨"com/example/ortigia/ortigia/LockKeys", "hashTagged", "(Ljava/lang/String;)Ljava/lang/String;"⟩ : MethodName) prog_4_method_7_code 2 (Option.some (Jvm.ClassFile.FieldType.object "java/lang/String")) ({ frames := 6, cells := 8, slots := 72, locals := 91 } : Room) #[.ref s, .ref a] h0 [] nar kn (fun v h sn => ∃ q u, v = some (.ref q) ∧ sn = [] ∧ Str Z h q u (tOp ++ bs ++ tCl ++ ds)) := by
  refine Ct.intro (plainFor_of_name pn_com_example_ortigia_ortigia_LockKeys) (ew hw) (ef_htag s a) ?_
  intro x hl hn0 hkn hsf hh H0
  have hnar : x.nar = false := hn0.trans hnr
  have H0 : Hr x b_htag Z EL1 0 0 h0 [] 0 #[.val (.ref s), .val (.ref a)] [] := H0
  obtain ⟨h1, E1, ⟨X1, D1, U1⟩, H1⟩ := H0.new (w141 hw) (w142 hw) (w143 hw) d_htag_0 (by first | decide | (simp [b_htag, Bx.R]; done) | (simp [b_htag, Bx.R]; omega)) (by first | decide | (simp [b_htag, Bx.R]; done) | (simp [b_htag, Bx.R]; omega))
  obtain ⟨q, g_q⟩ : ∃ z, z = h0.size := ⟨_, rfl⟩
  rw [← g_q] at X1 D1 U1 H1
  have H1 : Hr x b_htag Z EL1 1 4 h1 [q] 3 #[.val (.ref s), .val (.ref a)] [.ref q] := H1
  have H2 : Hr x b_htag Z EL1 1 4 h1 [q] 4 #[.val (.ref s), .val (.ref a)] [.ref q, .ref q] := H1.dup d_htag_3
  have T0 : Fld Z h1 q "java/lang/AbstractStringBuilder" "value" "[B" (.null) := D1 (Or.inl (w156 hw)) (ty := .array .byte) (by decide)
  have T1 : Fld Z h1 q "java/lang/AbstractStringBuilder" "coder" "B" (.int 0) := D1 (Or.inl (w158 hw)) (ty := .byte) (by decide)
  have T2 : Fld Z h1 q "java/lang/AbstractStringBuilder" "count" "I" (.int 0) := D1 (Or.inl (w172 hw)) (ty := .int) (by decide)
  obtain ⟨_, h2, _, ⟨v_, rfl, rfl, hv_, B2⟩, K2, H3⟩ := H2.callI (argsL := []) (rest := [.ref q]) (Wr := 1) (a := q) (ct_sbin hw x.l x.nar x.kn hnar h1 q X1 T0 T1 T2 cz O hcz) (sub1 (by simp)) (w144 hw) (w145 hw) (w143 hw) (w146 hw) d_htag_4 pd_sbin rfl (hf := by first | decide | (simp [b_htag, Bx.R]; done) | (simp [b_htag, Bx.R]; omega)) (hl := by first | decide | (simp [b_htag, Bx.R]; done) | (simp [b_htag, Bx.R]; omega)) (hc := by first | decide | (simp [b_htag, Bx.R]; done) | (simp [b_htag, Bx.R]; omega)) (hs := by first | decide | (simp [b_htag, Bx.R]; done) | (simp [b_htag, Bx.R]; omega))
  have H3 : Hr x b_htag Z EL1 2 20 h2 [v_, q] 7 #[.val (.ref s), .val (.ref a)] [.ref q] := H3
  have hqv : @Ne Nat q v_ := by have := exa_lt X1; omega
  have lb := Fb.lt
  have lb' := Fb.lt'
  have ld := Fd.lt
  have ld' := Fd.lt'
  have e1 := E1.1
  have Fb2 := (Fb.ext E1).keep K2 (ninS (neN (by omega)) nin0) (ninS (neN (by omega)) nin0)
  have Fd2 := (Fd.ext E1).keep K2 (ninS (neN (by omega)) nin0) (ninS (neN (by omega)) nin0)
  have Fn2 := (Fn.ext E1).keep K2 (ninS (neN (by have := fld_lt Fn; omega)) nin0)
  obtain ⟨la, lu, h3, E3, L3, n3, H4⟩ := H3.ldcS (n := 4) (bs := tOp) (z := 1) (w159 hw) (wStr hw) (ew hw) (by decide) (by decide) (by decide) (by decide) d_htag_7 (by decide) (by decide) hnar (by first | decide | (simp [b_htag, Bx.R]; done) | (simp [b_htag, Bx.R]; omega)) (by first | decide | (simp [b_htag, Bx.R]; done) | (simp [b_htag, Bx.R]; omega))
  have H4 : Hr x b_htag Z EL1 4 28 h3 [v_, q] 9 #[.val (.ref s), .val (.ref a)] [.ref la, .ref q] := H4
  have mv_ := n3 v_ (by simp)
  obtain ⟨_, h4, _, ⟨rfl, rfl, B4⟩, K4, H5⟩ := H4.callV (argsL := [.ref la]) (rest := []) (Wr := 0) (a := q) (ct_sapp hw x.l x.nar x.kn hnar h3 q v_ la lu [] tOp 16 (B2.ext E3) L3 (by intro y hy; cases hy) (by decide) (by decide) hqv cz O hcz) (by simp) (B2.ext E3).1 (w160 hw) (w161 hw) (w163 hw) (w163 hw) (w162 hw) (w143 hw) (w164 hw) d_htag_9 pd_sapp rfl (hf := by first | decide | (simp [b_htag, Bx.R]; done) | (simp [b_htag, Bx.R]; omega)) (hl := by first | decide | (simp [b_htag, Bx.R]; done) | (simp [b_htag, Bx.R]; omega)) (hc := by first | decide | (simp [b_htag, Bx.R]; done) | (simp [b_htag, Bx.R]; omega)) (hs := by first | decide | (simp [b_htag, Bx.R]; done) | (simp [b_htag, Bx.R]; omega))
  have H5 : Hr x b_htag Z EL1 4 28 h4 [v_, q] 12 #[.val (.ref s), .val (.ref a)] [.ref q] := H5
  have Fb4 := (Fb2.ext E3).keep K4 (ninS (neN (by omega)) (ninS (neN (by omega)) nin0)) (ninS (neN (by omega)) (ninS (neN (by omega)) nin0))
  have Fd4 := (Fd2.ext E3).keep K4 (ninS (neN (by omega)) (ninS (neN (by omega)) nin0)) (ninS (neN (by omega)) (ninS (neN (by omega)) nin0))
  have Fn4 := (Fn2.ext E3).keep K4 (ninS (neN (by have := fld_lt Fn; omega)) (ninS (neN (by have := fld_lt Fn; omega)) nin0))
  have H6 : Hr x b_htag Z EL1 4 28 h4 [v_, q] 13 #[.val (.ref s), .val (.ref a)] [.ref s, .ref q] := H5.aloadN d_htag_12
  have H7 : Hr x b_htag Z EL1 4 28 h4 [v_, q] 16 #[.val (.ref s), .val (.ref a)] [.ref c, .ref q] := H6.getF (w98 hw) Fn4 d_htag_13
  obtain ⟨_, h5, _, ⟨rfl, rfl, B5⟩, K5, H8⟩ := H7.callV (argsL := [.ref c]) (rest := []) (Wr := 0) (a := q) (ct_sapp hw x.l x.nar x.kn hnar h4 q v_ c k _ bs _ B4 Fb4 (by decide) bb (by simp [tOp]; omega) hqv cz O hcz) (by simp) B4.1 (w160 hw) (w161 hw) (w163 hw) (w163 hw) (w162 hw) (w143 hw) (w164 hw) d_htag_16 pd_sapp rfl (hf := by first | decide | (simp [b_htag, Bx.R]; done) | (simp [b_htag, Bx.R]; omega)) (hl := by first | decide | (simp [b_htag, Bx.R]; done) | (simp [b_htag, Bx.R]; omega)) (hc := by first | decide | (simp [b_htag, Bx.R]; done) | (simp [b_htag, Bx.R]; omega)) (hs := by first | decide | (simp [b_htag, Bx.R]; done) | (simp [b_htag, Bx.R]; omega))
  have H8 : Hr x b_htag Z EL1 4 28 h5 [v_, q] 19 #[.val (.ref s), .val (.ref a)] [.ref q] := H8
  obtain ⟨lc, lw, h6, E6, L6, n6, H9⟩ := H8.ldcS (n := 8) (bs := tCl) (z := 2) (w198 hw) (wStr hw) (ew hw) (by decide) (by decide) (by decide) (by decide) d_htag_19 (by decide) (by decide) hnar (by first | decide | (simp [b_htag, Bx.R]; done) | (simp [b_htag, Bx.R]; omega)) (by first | decide | (simp [b_htag, Bx.R]; done) | (simp [b_htag, Bx.R]; omega))
  have H9 : Hr x b_htag Z EL1 6 40 h6 [v_, q] 21 #[.val (.ref s), .val (.ref a)] [.ref lc, .ref q] := H9
  have e5 : [] ++ tOp ++ bs = tOp ++ bs := by simp
  have b5 : BL ([] ++ tOp ++ bs) := by rw [e5]; exact BL.app (by decide) bb
  obtain ⟨_, h7, _, ⟨rfl, rfl, B7⟩, K7, H10⟩ := H9.callV (argsL := [.ref lc]) (rest := []) (Wr := 0) (a := q) (ct_sapp hw x.l x.nar x.kn hnar h6 q v_ lc lw _ tCl _ (B5.ext E6) L6 b5 (by decide) (by simp [tOp, tCl]; omega) hqv cz O hcz) (by simp) (B5.ext E6).1 (w160 hw) (w161 hw) (w163 hw) (w163 hw) (w162 hw) (w143 hw) (w164 hw) d_htag_21 pd_sapp rfl (hf := by first | decide | (simp [b_htag, Bx.R]; done) | (simp [b_htag, Bx.R]; omega)) (hl := by first | decide | (simp [b_htag, Bx.R]; done) | (simp [b_htag, Bx.R]; omega)) (hc := by first | decide | (simp [b_htag, Bx.R]; done) | (simp [b_htag, Bx.R]; omega)) (hs := by first | decide | (simp [b_htag, Bx.R]; done) | (simp [b_htag, Bx.R]; omega))
  have H10 : Hr x b_htag Z EL1 6 40 h7 [v_, q] 24 #[.val (.ref s), .val (.ref a)] [.ref q] := H10
  have Fd7 := ((Fd4.keep K5 (ninS (neN (by omega)) (ninS (neN (by omega)) nin0)) (ninS (neN (by omega)) (ninS (neN (by omega)) nin0))).ext E6).keep K7 (ninS (neN (by omega)) (ninS (neN (by omega)) nin0)) (ninS (neN (by omega)) (ninS (neN (by omega)) nin0))
  have H11 : Hr x b_htag Z EL1 6 40 h7 [v_, q] 25 #[.val (.ref s), .val (.ref a)] [.ref a, .ref q] := H10.aloadN d_htag_24
  have b7 : BL ([] ++ tOp ++ bs ++ tCl) := BL.app b5 (by decide)
  obtain ⟨_, h8, _, ⟨rfl, rfl, B8⟩, K8, H12⟩ := H11.callV (argsL := [.ref a]) (rest := []) (Wr := 0) (a := q) (ct_sapp hw x.l x.nar x.kn hnar h7 q v_ a u _ ds _ B7 Fd7 b7 bd (by simp [tOp, tCl]; omega) hqv cz O hcz) (by simp) B7.1 (w160 hw) (w161 hw) (w163 hw) (w163 hw) (w162 hw) (w143 hw) (w164 hw) d_htag_25 pd_sapp rfl (hf := by first | decide | (simp [b_htag, Bx.R]; done) | (simp [b_htag, Bx.R]; omega)) (hl := by first | decide | (simp [b_htag, Bx.R]; done) | (simp [b_htag, Bx.R]; omega)) (hc := by first | decide | (simp [b_htag, Bx.R]; done) | (simp [b_htag, Bx.R]; omega)) (hs := by first | decide | (simp [b_htag, Bx.R]; done) | (simp [b_htag, Bx.R]; omega))
  have H12 : Hr x b_htag Z EL1 6 40 h8 [v_, q] 28 #[.val (.ref s), .val (.ref a)] [.ref q] := H12
  have b8_ : BL ([] ++ tOp ++ bs ++ tCl ++ ds) := BL.app b7 bd
  have hlen : ([] ++ tOp ++ bs ++ tCl ++ ds).length ≤ 15 := by simp [tOp, tCl]; omega
  have lOp : tOp.length = 1 := by decide
  have lCl : tCl.length = 2 := by decide
  obtain ⟨_, h9, _, ⟨z_, y_, rfl, rfl, S9⟩, K9, H13⟩ := H12.callV (argsL := []) (rest := []) (Wr := 0) (a := q) (ct_tstr hw x.l x.nar x.kn hnar h8 q v_ _ _ B8 b8_ (by simp [tOp, tCl]; omega) (by omega) cz O hcz) sub0 B8.1 (w199 hw) (w200 hw) (w202 hw) (w202 hw) (w201 hw) (w143 hw) (w203 hw) d_htag_28 pd_tstr rfl (hf := by first | (simp [b_htag, Bx.R]; done) | (simp [b_htag, Bx.R]; omega)) (hl := by first | (simp [b_htag, Bx.R]; done) | (simp [b_htag, Bx.R]; omega)) (hc := by first | (simp [b_htag, Bx.R]; done) | (simp [b_htag, Bx.R]; omega)) (hs := by first | (simp [b_htag, Bx.R]; done) | (simp [b_htag, Bx.R]; omega))
  have H13 : Hr x b_htag Z EL1 8 (40 + (4 + ([] ++ tOp ++ bs ++ tCl ++ ds).length)) h9 [v_, q] 31 #[.val (.ref s), .val (.ref a)] [.ref z_] := H13
  exact (H13.weaken (K' := 8) (S' := 72) (sf' := []) (by decide) (by omega) (fun _ q => nomatch q)).finA d_htag_31 ⟨z_, y_, rfl, rfl, by simpa using S9⟩ sub0
def b_fkey : Bx := (({ frames := 7, cells := 10, slots := 96, locals := 104 } : Room), (⟨"com/example/ortigia/ortigia/LockKeys", "fenceKey", "()Ljava/lang/String;"⟩ : MethodName), prog_4_method_4_code, 1, (Option.some (Jvm.ClassFile.FieldType.object "java/lang/String")))
theorem ef_fkey (s : Addr) (mI : MethodId) : entryFrame mI #[.ref s] 1 = mkF mI 0 #[.val (.ref s)] [] := by first | (simp [entryFrame, mkF, argsToLocals, Value.category]; done) | rfl
theorem pd_fkey : parseMethodDescriptor "()Ljava/lang/String;" = some ⟨[], some (.object "java/lang/String")⟩ := by decide +kernel
set_option maxRecDepth 65536 in
set_option maxHeartbeats 4000000 in
theorem ct_fkey {a0 : Array Value} {Z : State} (hw : ∀ d ∈ tables_1, d.before a0 Z = true) (l : Launch) (nar kn : Bool) (hnr : nar = false) (h0 : Heap) (s c k : Addr) (bs : List Int32) (Es : Exa Z h0 s "com/example/ortigia/ortigia/LockKeys") (Fn : Fld Z h0 s "com/example/ortigia/ortigia/LockKeys" "name" "Ljava/lang/String;" (.ref c)) (Fb : Str Z h0 c k bs) (bb : BL bs) (hb4 : bs.length ≤ 4) (cz : Int32) (O : Sta Z Z.heap "java/lang/String" "COMPACT_STRINGS" "Z" (.int cz)) (hcz : ¬ cz = 0) :
    Ct l Z EL1 (⟨"com/example/ortigia/ortigia/LockKeys", "fenceKey", "()Ljava/lang/String;"⟩ : MethodName) prog_4_method_4_code 1 (Option.some (Jvm.ClassFile.FieldType.object "java/lang/String")) ({ frames := 7, cells := 10, slots := 96, locals := 104 } : Room) #[.ref s] h0 [] nar kn (fun v h sn => ∃ q u, v = some (.ref q) ∧ sn = [] ∧ Str Z h q u (tOp ++ bs ++ tCl ++ tFe)) := by
  refine Ct.intro (plainFor_of_name pn_com_example_ortigia_ortigia_LockKeys) (ew hw) (ef_fkey s) ?_
  intro x hl hn0 hkn hsf hh H0
  have hnar : x.nar = false := hn0.trans hnr
  have H0 : Hr x b_fkey Z EL1 0 0 h0 [] 0 #[.val (.ref s)] [] := H0
  have H1 : Hr x b_fkey Z EL1 0 0 h0 [] 1 #[.val (.ref s)] [.ref s] := H0.aloadN d_fkey_0
  obtain ⟨la, lu, h1, E1, L1_, n1, H2⟩ := H1.ldcS (n := 20) (bs := tFe) (z := 5) (w136 hw) (wStr hw) (ew hw) (by decide) (by decide) (by decide) (by decide) d_fkey_1 (by decide) (by decide) hnar (by first | decide | (simp [b_fkey, Bx.R]; done) | (simp [b_fkey, Bx.R]; omega)) (by first | decide | (simp [b_fkey, Bx.R]; done) | (simp [b_fkey, Bx.R]; omega))
  have H2 : Hr x b_fkey Z EL1 2 24 h1 [] 3 #[.val (.ref s)] [.ref la, .ref s] := H2
  obtain ⟨_, h2, _, ⟨q, u, rfl, rfl, S2⟩, K2, H3⟩ := H2.callP (argsL := [.ref la]) (rest := []) (Wr := 0) (a := s) (ct_htag hw x.l x.nar x.kn hnar h1 s c k la lu bs _ (Fn.ext E1) (Fb.ext E1) L1_ bb (by decide) hb4 (by decide) cz O hcz) sub0 (Es.ext E1) (w137 hw) (w138 hw) (w103 hw) (w139 hw) (w36 hw) (w140 hw) d_fkey_3 pd_htag rfl (hf := by first | decide | (simp [b_fkey, Bx.R]; done) | (simp [b_fkey, Bx.R]; omega)) (hl := by first | decide | (simp [b_fkey, Bx.R]; done) | (simp [b_fkey, Bx.R]; omega)) (hc := by first | decide | (simp [b_fkey, Bx.R]; done) | (simp [b_fkey, Bx.R]; omega)) (hs := by first | decide | (simp [b_fkey, Bx.R]; done) | (simp [b_fkey, Bx.R]; omega))
  have H3 : Hr x b_fkey Z EL1 10 96 h2 [] 6 #[.val (.ref s)] [.ref q] := H3
  exact H3.finA d_fkey_6 ⟨q, u, rfl, rfl, S2⟩ sub0
def b_rkey : Bx := (({ frames := 7, cells := 10, slots := 108, locals := 104 } : Room), (⟨"com/example/ortigia/ortigia/LockKeys", "releasedChannel", "()Ljava/lang/String;"⟩ : MethodName), prog_4_method_5_code, 1, (Option.some (Jvm.ClassFile.FieldType.object "java/lang/String")))
theorem ef_rkey (s : Addr) (mI : MethodId) : entryFrame mI #[.ref s] 1 = mkF mI 0 #[.val (.ref s)] [] := by first | (simp [entryFrame, mkF, argsToLocals, Value.category]; done) | rfl
theorem pd_rkey : parseMethodDescriptor "()Ljava/lang/String;" = some ⟨[], some (.object "java/lang/String")⟩ := by decide +kernel
set_option maxRecDepth 65536 in
set_option maxHeartbeats 4000000 in
theorem ct_rkey {a0 : Array Value} {Z : State} (hw : ∀ d ∈ tables_1, d.before a0 Z = true) (l : Launch) (nar kn : Bool) (hnr : nar = false) (h0 : Heap) (s c k : Addr) (bs : List Int32) (Es : Exa Z h0 s "com/example/ortigia/ortigia/LockKeys") (Fn : Fld Z h0 s "com/example/ortigia/ortigia/LockKeys" "name" "Ljava/lang/String;" (.ref c)) (Fb : Str Z h0 c k bs) (bb : BL bs) (hb4 : bs.length ≤ 4) (cz : Int32) (O : Sta Z Z.heap "java/lang/String" "COMPACT_STRINGS" "Z" (.int cz)) (hcz : ¬ cz = 0) :
    Ct l Z EL1 (⟨"com/example/ortigia/ortigia/LockKeys", "releasedChannel", "()Ljava/lang/String;"⟩ : MethodName) prog_4_method_5_code 1 (Option.some (Jvm.ClassFile.FieldType.object "java/lang/String")) ({ frames := 7, cells := 10, slots := 108, locals := 104 } : Room) #[.ref s] h0 [] nar kn (fun v h sn => ∃ q u, v = some (.ref q) ∧ sn = [] ∧ Str Z h q u (tOp ++ bs ++ tCl ++ tRe)) := by
  refine Ct.intro (plainFor_of_name pn_com_example_ortigia_ortigia_LockKeys) (ew hw) (ef_rkey s) ?_
  intro x hl hn0 hkn hsf hh H0
  have hnar : x.nar = false := hn0.trans hnr
  have H0 : Hr x b_rkey Z EL1 0 0 h0 [] 0 #[.val (.ref s)] [] := H0
  have H1 : Hr x b_rkey Z EL1 0 0 h0 [] 1 #[.val (.ref s)] [.ref s] := H0.aloadN d_rkey_0
  obtain ⟨la, lu, h1, E1, L1_, n1, H2⟩ := H1.ldcS (n := 32) (bs := tRe) (z := 8) (w251 hw) (wStr hw) (ew hw) (by decide) (by decide) (by decide) (by decide) d_rkey_1 (by decide) (by decide) hnar (by first | decide | (simp [b_rkey, Bx.R]; done) | (simp [b_rkey, Bx.R]; omega)) (by first | decide | (simp [b_rkey, Bx.R]; done) | (simp [b_rkey, Bx.R]; omega))
  have H2 : Hr x b_rkey Z EL1 2 36 h1 [] 3 #[.val (.ref s)] [.ref la, .ref s] := H2
  obtain ⟨_, h2, _, ⟨q, u, rfl, rfl, S2⟩, K2, H3⟩ := H2.callP (argsL := [.ref la]) (rest := []) (Wr := 0) (a := s) (ct_htag hw x.l x.nar x.kn hnar h1 s c k la lu bs _ (Fn.ext E1) (Fb.ext E1) L1_ bb (by decide) hb4 (by decide) cz O hcz) sub0 (Es.ext E1) (w137 hw) (w138 hw) (w103 hw) (w139 hw) (w36 hw) (w140 hw) d_rkey_3 pd_htag rfl (hf := by first | decide | (simp [b_rkey, Bx.R]; done) | (simp [b_rkey, Bx.R]; omega)) (hl := by first | decide | (simp [b_rkey, Bx.R]; done) | (simp [b_rkey, Bx.R]; omega)) (hc := by first | decide | (simp [b_rkey, Bx.R]; done) | (simp [b_rkey, Bx.R]; omega)) (hs := by first | decide | (simp [b_rkey, Bx.R]; done) | (simp [b_rkey, Bx.R]; omega))
  have H3 : Hr x b_rkey Z EL1 10 108 h2 [] 6 #[.val (.ref s)] [.ref q] := H3
  exact H3.finA d_rkey_6 ⟨q, u, rfl, rfl, S2⟩ sub0
def b_wkey : Bx := (({ frames := 7, cells := 10, slots := 104, locals := 104 } : Room), (⟨"com/example/ortigia/ortigia/LockKeys", "waitersKey", "()Ljava/lang/String;"⟩ : MethodName), prog_4_method_6_code, 1, (Option.some (Jvm.ClassFile.FieldType.object "java/lang/String")))
theorem ef_wkey (s : Addr) (mI : MethodId) : entryFrame mI #[.ref s] 1 = mkF mI 0 #[.val (.ref s)] [] := by first | (simp [entryFrame, mkF, argsToLocals, Value.category]; done) | rfl
theorem pd_wkey : parseMethodDescriptor "()Ljava/lang/String;" = some ⟨[], some (.object "java/lang/String")⟩ := by decide +kernel
set_option maxRecDepth 65536 in
set_option maxHeartbeats 4000000 in
theorem ct_wkey {a0 : Array Value} {Z : State} (hw : ∀ d ∈ tables_1, d.before a0 Z = true) (l : Launch) (nar kn : Bool) (hnr : nar = false) (h0 : Heap) (s c k : Addr) (bs : List Int32) (Es : Exa Z h0 s "com/example/ortigia/ortigia/LockKeys") (Fn : Fld Z h0 s "com/example/ortigia/ortigia/LockKeys" "name" "Ljava/lang/String;" (.ref c)) (Fb : Str Z h0 c k bs) (bb : BL bs) (hb4 : bs.length ≤ 4) (cz : Int32) (O : Sta Z Z.heap "java/lang/String" "COMPACT_STRINGS" "Z" (.int cz)) (hcz : ¬ cz = 0) :
    Ct l Z EL1 (⟨"com/example/ortigia/ortigia/LockKeys", "waitersKey", "()Ljava/lang/String;"⟩ : MethodName) prog_4_method_6_code 1 (Option.some (Jvm.ClassFile.FieldType.object "java/lang/String")) ({ frames := 7, cells := 10, slots := 104, locals := 104 } : Room) #[.ref s] h0 [] nar kn (fun v h sn => ∃ q u, v = some (.ref q) ∧ sn = [] ∧ Str Z h q u (tOp ++ bs ++ tCl ++ tWa)) := by
  refine Ct.intro (plainFor_of_name pn_com_example_ortigia_ortigia_LockKeys) (ew hw) (ef_wkey s) ?_
  intro x hl hn0 hkn hsf hh H0
  have hnar : x.nar = false := hn0.trans hnr
  have H0 : Hr x b_wkey Z EL1 0 0 h0 [] 0 #[.val (.ref s)] [] := H0
  have H1 : Hr x b_wkey Z EL1 0 0 h0 [] 1 #[.val (.ref s)] [.ref s] := H0.aloadN d_wkey_0
  obtain ⟨la, lu, h1, E1, L1_, n1, H2⟩ := H1.ldcS (n := 28) (bs := tWa) (z := 7) (w258 hw) (wStr hw) (ew hw) (by decide) (by decide) (by decide) (by decide) d_wkey_1 (by decide) (by decide) hnar (by first | decide | (simp [b_wkey, Bx.R]; done) | (simp [b_wkey, Bx.R]; omega)) (by first | decide | (simp [b_wkey, Bx.R]; done) | (simp [b_wkey, Bx.R]; omega))
  have H2 : Hr x b_wkey Z EL1 2 32 h1 [] 3 #[.val (.ref s)] [.ref la, .ref s] := H2
  obtain ⟨_, h2, _, ⟨q, u, rfl, rfl, S2⟩, K2, H3⟩ := H2.callP (argsL := [.ref la]) (rest := []) (Wr := 0) (a := s) (ct_htag hw x.l x.nar x.kn hnar h1 s c k la lu bs _ (Fn.ext E1) (Fb.ext E1) L1_ bb (by decide) hb4 (by decide) cz O hcz) sub0 (Es.ext E1) (w137 hw) (w138 hw) (w103 hw) (w139 hw) (w36 hw) (w140 hw) d_wkey_3 pd_htag rfl (hf := by first | decide | (simp [b_wkey, Bx.R]; done) | (simp [b_wkey, Bx.R]; omega)) (hl := by first | decide | (simp [b_wkey, Bx.R]; done) | (simp [b_wkey, Bx.R]; omega)) (hc := by first | decide | (simp [b_wkey, Bx.R]; done) | (simp [b_wkey, Bx.R]; omega)) (hs := by first | decide | (simp [b_wkey, Bx.R]; done) | (simp [b_wkey, Bx.R]; omega))
  have H3 : Hr x b_wkey Z EL1 10 104 h2 [] 6 #[.val (.ref s)] [.ref q] := H3
  exact H3.finA d_wkey_6 ⟨q, u, rfl, rfl, S2⟩ sub0
theorem Ar.seti {Z : State} {h h' : Heap} {a : Addr} {ty : FieldType} {ds : List Int32} {i : Nat} {w : Int32} (F : Ar Z h a ty (ds.map Value.int)) (W : Wr h h' a i (.int w)) : Ar Z h' a ty ((ds.set i w).map Value.int) := by
  have := F.set W
  rw [← List.map_set] at this; exact this
/-- what expected(..) spells -/
def expL (n : Nat) (cs tx : List Int32) : List Int32 := 123 :: (cs.take n ++ (125 :: 58 :: tx.map u8))
theorem ilt {n k : Nat} (hn : n < 2147483648) (hk : k < 2147483648) : Int32.ofNat n < Int32.ofNat k ↔ n < k := by
  rw [Int32.lt_iff_toInt_lt, toInt_of rfl (by omega), toInt_of rfl (by omega)]; omega
theorem u8_rng (b : Int32) : ¬ u8 b < 0 ∧ ¬ 255 < u8 b := chr_rng b
theorem exp_rng {n : Nat} {c0 c1 c2 c3 : Int32} {tx : List Int32} (r0 : ¬ c0 < 0 ∧ ¬ 255 < c0) (r1 : ¬ c1 < 0 ∧ ¬ 255 < c1) (r2 : ¬ c2 < 0 ∧ ¬ 255 < c2) (r3 : ¬ c3 < 0 ∧ ¬ 255 < c3) : ∀ c ∈ expL n [c0, c1, c2, c3] tx, ¬ c < 0 ∧ ¬ 255 < c := fun c hc => by
  unfold expL at hc
  rcases List.mem_cons.mp hc with rfl | hc
  · decide
  rcases List.mem_append.mp hc with hc | hc
  · have := List.mem_of_mem_take hc
    simp only [List.mem_cons, List.not_mem_nil, or_false] at this
    rcases this with rfl | rfl | rfl | rfl
    · exact r0
    · exact r1
    · exact r2
    · exact r3
  rcases List.mem_cons.mp hc with rfl | hc
  · decide
  rcases List.mem_cons.mp hc with rfl | hc
  · decide
  obtain ⟨z, -, rfl⟩ := List.mem_map.mp hc
  exact u8_rng z
def stp (b : Bool) (i : Nat) (v : Int32) (d : List Int32) : List Int32 := if b then d.set i v else d
theorem stp_of {t : Prop} [Decidable t] {d d' : List Int32} {i : Nat} {v : Int32} (e : d' = if t then d.set i v else d) : d' = stp (decide t) i v d := by
  rw [e]; unfold stp; by_cases h : t <;> simp [h]
set_option maxRecDepth 65536 in
theorem exp_fin {n N : Nat} {c0 c1 c2 c3 : Int32} {tx d0 d1 d2 d3 d4 d5 d6 d7 d8 d9 d10 d11 d12 d13 d14 d15 : List Int32} (hn : n = 1 ∨ n = 2 ∨ n = 3 ∨ n = 4) (htx : tx = tFe ∨ tx = tRe ∨ tx = tWa) (hN : N = n + 3 + tx.length)
  (e0 : d0 = List.replicate N 0) (e1 : d1 = d0.set 0 123) (e2 : d2 = d1.set 1 c0)
  (e3 : d3 = if 2 ≤ n then d2.set 2 c1 else d2) (e4 : d4 = if 3 ≤ n then d3.set 3 c2 else d3) (e5 : d5 = if 4 ≤ n then d4.set 4 c3 else d4)
  (e6 : d6 = d5.set (n + 1) 125) (e7 : d7 = d6.set (n + 2) 58)
  (e8 : d8 = if 0 < tx.length then d7.set (n + 3) (u8 (tx.getD 0 0)) else d7)
  (e9 : d9 = if 1 < tx.length then d8.set (n + 3 + 1) (u8 (tx.getD 1 0)) else d8)
  (e10 : d10 = if 2 < tx.length then d9.set (n + 3 + 2) (u8 (tx.getD 2 0)) else d9)
  (e11 : d11 = if 3 < tx.length then d10.set (n + 3 + 3) (u8 (tx.getD 3 0)) else d10)
  (e12 : d12 = if 4 < tx.length then d11.set (n + 3 + 4) (u8 (tx.getD 4 0)) else d11)
  (e13 : d13 = if 5 < tx.length then d12.set (n + 3 + 5) (u8 (tx.getD 5 0)) else d12)
  (e14 : d14 = if 6 < tx.length then d13.set (n + 3 + 6) (u8 (tx.getD 6 0)) else d13)
  (e15 : d15 = if 7 < tx.length then d14.set (n + 3 + 7) (u8 (tx.getD 7 0)) else d14) : d15 = expL n [c0, c1, c2, c3] tx := by
  rw [stp_of e15, stp_of e14, stp_of e13, stp_of e12, stp_of e11, stp_of e10, stp_of e9, stp_of e8, e7, e6, stp_of e5, stp_of e4, stp_of e3, e2, e1, e0, hN]
  clear e15 e14 e13 e12 e11 e10 e9 e8 e7 e6 e5 e4 e3 e2 e1 e0 hN
  rcases hn with rfl | rfl | rfl | rfl <;> rcases htx with rfl | rfl | rfl <;> rfl
theorem exp_bytes {n : Nat} {cs tx : List Int32} (htx : tx = tFe ∨ tx = tRe ∨ tx = tWa) : (expL n cs tx).map b8 = tOp ++ (cs.take n).map b8 ++ tCl ++ tx := by
  have e : (tx.map u8).map b8 = tx := by rcases htx with rfl | rfl | rfl <;> decide
  simp only [expL, List.map_cons, List.map_append, e]
  rw [show tOp = [b8 123] by decide, show tCl = [b8 125, b8 58] by decide]
  simp
def b_expd : Bx := (({ frames := 4, cells := 6, slots := 42, locals := 66 } : Room), (⟨"com/example/ortigia/ortigia/LockKeysOfPinLaw", "expected", "(CCCCILjava/lang/String;)Ljava/lang/String;"⟩ : MethodName), method_4_code, 9, (Option.some (Jvm.ClassFile.FieldType.object "java/lang/String")))
theorem ef_expd (c0 c1 c2 c3 : Int32) (n : Nat) (s : Addr) (mI : MethodId) : entryFrame mI #[.int c0, .int c1, .int c2, .int c3, .int (Int32.ofNat n), .ref s] 9 = mkF mI 0 #[.val (.int c0), .val (.int c1), .val (.int c2), .val (.int c3), .val (.int (Int32.ofNat n)), .val (.ref s), .unset, .unset, .unset] [] := by first | (simp [entryFrame, mkF, argsToLocals, Value.category]; done) | rfl
theorem pd_expd : parseMethodDescriptor "(CCCCILjava/lang/String;)Ljava/lang/String;" = some ⟨[.char, .char, .char, .char, .int, (.object "java/lang/String")], some (.object "java/lang/String")⟩ := by decide +kernel
set_option maxRecDepth 65536 in
set_option maxHeartbeats 4000000 in
theorem ct_expd {a0 : Array Value} {Z : State} (hw : ∀ d ∈ tables_1, d.before a0 Z = true) (l : Launch) (nar kn : Bool) (hnr : nar = false) (h0 : Heap) (c0 c1 c2 c3 : Int32) (n : Nat) (s u : Addr) (tx : List Int32) (hn : n = 1 ∨ n = 2 ∨ n = 3 ∨ n = 4) (htx : tx = tFe ∨ tx = tRe ∨ tx = tWa) (r0 : ¬ c0 < 0 ∧ ¬ 255 < c0) (r1 : ¬ c1 < 0 ∧ ¬ 255 < c1) (r2 : ¬ c2 < 0 ∧ ¬ 255 < c2) (r3 : ¬ c3 < 0 ∧ ¬ 255 < c3) (S0 : Str Z h0 s u tx) (f : Value) (hfr : f.isRef = true) (P : Sta Z Z.heap "jdk/internal/util/Preconditions" "SIOOBE_FORMATTER" "Ljava/util/function/BiFunction;" f) (cz : Int32) (O : Sta Z Z.heap "java/lang/String" "COMPACT_STRINGS" "Z" (.int cz)) (hcz : ¬ cz = 0) :
    Ct l Z EL1 (⟨"com/example/ortigia/ortigia/LockKeysOfPinLaw", "expected", "(CCCCILjava/lang/String;)Ljava/lang/String;"⟩ : MethodName) method_4_code 9 (Option.some (Jvm.ClassFile.FieldType.object "java/lang/String")) ({ frames := 4, cells := 6, slots := 42, locals := 66 } : Room) #[.int c0, .int c1, .int c2, .int c3, .int (Int32.ofNat n), .ref s] h0 [] nar kn (fun v h sn => ∃ a t, v = some (.ref a) ∧ sn = [] ∧ Str Z h a t ((expL n [c0, c1, c2, c3] tx).map b8)) := by
  refine Ct.intro (plainFor_of_name pn_com_example_ortigia_ortigia_LockKeysOfPinLaw) (ew hw) (ef_expd c0 c1 c2 c3 n s) ?_
  intro x hl hn0 hkn hsf hh H0
  have hnar : x.nar = false := hn0.trans hnr
  have H0 : Hr x b_expd Z EL1 0 0 h0 [] 0 #[.val (.int c0), .val (.int c1), .val (.int c2), .val (.int c3), .val (.int (Int32.ofNat n)), .val (.ref s), .unset, .unset, .unset] [] := H0
  have hn4 : 1 ≤ n ∧ n ≤ 4 := by omega
  have ht8 : 5 ≤ tx.length ∧ tx.length ≤ 8 := by rcases htx with rfl | rfl | rfl <;> decide
  obtain ⟨N, hN⟩ : ∃ N, N = n + 3 + tx.length := ⟨_, rfl⟩
  have hclamp : (Int32.ofNat N).toNatClampNeg = N := clamp_of rfl (by omega)
  have H1 : Hr x b_expd Z EL1 0 0 h0 [] 2 #[.val (.int c0), .val (.int c1), .val (.int c2), .val (.int c3), .val (.int (Int32.ofNat n)), .val (.ref s), .unset, .unset, .unset] [.ref s] := H0.aload d_expd_0
  obtain ⟨_, hl, _, ⟨rfl, rfl, el⟩, Kl, H2⟩ := H1.callV (argsL := []) (rest := []) (Wr := 0) (a := s) (ct_slen hw x.l x.nar x.kn hnar h0 s u tx S0 cz O hcz) sub0 S0.1 (w114 hw) (w66 hw) (w68 hw) (w68 hw) (w67 hw) (w7 hw) (w69 hw) d_expd_2 pd_slen rfl (hf := by first | decide | (simp [b_expd, Bx.R]; done) | (simp [b_expd, Bx.R]; omega)) (hl := by first | decide | (simp [b_expd, Bx.R]; done) | (simp [b_expd, Bx.R]; omega)) (hc := by first | decide | (simp [b_expd, Bx.R]; done) | (simp [b_expd, Bx.R]; omega)) (hs := by first | decide | (simp [b_expd, Bx.R]; done) | (simp [b_expd, Bx.R]; omega))
  rw [el] at H2
  have H2 : Hr x b_expd Z EL1 0 0 h0 [] 5 #[.val (.int c0), .val (.int c1), .val (.int c2), .val (.int c3), .val (.int (Int32.ofNat n)), .val (.ref s), .unset, .unset, .unset] [.int (Int32.ofNat tx.length)] := H2
  have H3 : Hr x b_expd Z EL1 0 0 h0 [] 7 #[.val (.int c0), .val (.int c1), .val (.int c2), .val (.int c3), .val (.int (Int32.ofNat n)), .val (.ref s), .val (.int (Int32.ofNat tx.length)), .unset, .unset] [] := H2.istore d_expd_5
  have H4 : Hr x b_expd Z EL1 0 0 h0 [] 9 #[.val (.int c0), .val (.int c1), .val (.int c2), .val (.int c3), .val (.int (Int32.ofNat n)), .val (.ref s), .val (.int (Int32.ofNat tx.length)), .unset, .unset] [.int (Int32.ofNat n)] := H3.iload d_expd_7
  have H5 : Hr x b_expd Z EL1 0 0 h0 [] 10 #[.val (.int c0), .val (.int c1), .val (.int c2), .val (.int c3), .val (.int (Int32.ofNat n)), .val (.ref s), .val (.int (Int32.ofNat tx.length)), .unset, .unset] [.int (3 : Int32), .int (Int32.ofNat n)] := H4.iconst d_expd_9
  have H6 : Hr x b_expd Z EL1 0 0 h0 [] 11 #[.val (.int c0), .val (.int c1), .val (.int c2), .val (.int c3), .val (.int (Int32.ofNat n)), .val (.ref s), .val (.int (Int32.ofNat tx.length)), .unset, .unset] [.int (Int32.ofNat (n + 3))] := H5.iadd d_expd_10 (hv := (ofNat_add n 3))
  have H7 : Hr x b_expd Z EL1 0 0 h0 [] 13 #[.val (.int c0), .val (.int c1), .val (.int c2), .val (.int c3), .val (.int (Int32.ofNat n)), .val (.ref s), .val (.int (Int32.ofNat tx.length)), .unset, .unset] [.int (Int32.ofNat tx.length), .int (Int32.ofNat (n + 3))] := H6.iload d_expd_11
  have H8 : Hr x b_expd Z EL1 0 0 h0 [] 14 #[.val (.int c0), .val (.int c1), .val (.int c2), .val (.int c3), .val (.int (Int32.ofNat n)), .val (.ref s), .val (.int (Int32.ofNat tx.length)), .unset, .unset] [.int (Int32.ofNat N)] := H7.iadd d_expd_13 (hv := (by rw [ofNat_add, hN]))
  obtain ⟨h1, E1, F1, H9⟩ := H8.newarray (aty := .char) (cap := 15) (w4 hw) d_expd_14 (nn32 (by omega)) (Nat.le_trans (Nat.le_of_eq hclamp) (by omega : N ≤ 15)) (by decide) (by first | (simp [b_expd, Bx.R]; done) | (simp [b_expd, Bx.R]; omega)) (by first | (simp [b_expd, Bx.R]; done) | (simp [b_expd, Bx.R]; omega))
  obtain ⟨e, g_e⟩ : ∃ z, z = h0.size := ⟨_, rfl⟩
  rw [← g_e] at F1 H9
  have F1 : Ar Z h1 e .char ((List.replicate N (0 : Int32)).map Value.int) := (by have := F1; rw [hclamp] at this; rw [List.map_replicate]; exact this)
  have H9 : Hr x b_expd Z EL1 1 15 h1 [e] 16 #[.val (.int c0), .val (.int c1), .val (.int c2), .val (.int c3), .val (.int (Int32.ofNat n)), .val (.ref s), .val (.int (Int32.ofNat tx.length)), .unset, .unset] [.ref e] := H9
  have hse : @Ne Nat s e := by have := S0.lt; omega
  have hue : @Ne Nat u e := by have := S0.lt'; omega
  have S1 := S0.ext E1
  obtain ⟨d1, ed1⟩ : ∃ z : List Int32, z = List.replicate N 0 := ⟨_, rfl⟩
  rw [← ed1] at F1
  have ln1 : d1.length = N := by rw [ed1]; simp
  have H10 : Hr x b_expd Z EL1 1 15 h1 [e] 18 #[.val (.int c0), .val (.int c1), .val (.int c2), .val (.int c3), .val (.int (Int32.ofNat n)), .val (.ref s), .val (.int (Int32.ofNat tx.length)), .val (.ref e), .unset] [] := H9.astore d_expd_16
  have H11 : Hr x b_expd Z EL1 1 15 h1 [e] 20 #[.val (.int c0), .val (.int c1), .val (.int c2), .val (.int c3), .val (.int (Int32.ofNat n)), .val (.ref s), .val (.int (Int32.ofNat tx.length)), .val (.ref e), .unset] [.ref e] := H10.aload d_expd_18
  have H12 : Hr x b_expd Z EL1 1 15 h1 [e] 21 #[.val (.int c0), .val (.int c1), .val (.int c2), .val (.int c3), .val (.int (Int32.ofNat n)), .val (.ref s), .val (.int (Int32.ofNat tx.length)), .val (.ref e), .unset] [.int (0 : Int32), .ref e] := H11.iconst d_expd_20
  have H13 : Hr x b_expd Z EL1 1 15 h1 [e] 23 #[.val (.int c0), .val (.int c1), .val (.int c2), .val (.int c3), .val (.int (Int32.ofNat n)), .val (.ref s), .val (.int (Int32.ofNat tx.length)), .val (.ref e), .unset] [.int (123 : Int32), .int (0 : Int32), .ref e] := H12.bipush d_expd_21
  obtain ⟨hp14, Wp14, H15⟩ := H13.castore (by simp) F1 d_expd_23 (i := 0) rfl (by rw [List.length_map, ln1]; omega) (hw := (nar_c ((by decide : ¬ (123 : Int32) < 0 ∧ ¬ (255 : Int32) < 123)).1 ((by decide : ¬ (123 : Int32) < 0 ∧ ¬ (255 : Int32) < 123)).2))
  have H15 : Hr x b_expd Z EL1 1 15 hp14 [e] 24 #[.val (.int c0), .val (.int c1), .val (.int c2), .val (.int c3), .val (.int (Int32.ofNat n)), .val (.ref s), .val (.int (Int32.ofNat tx.length)), .val (.ref e), .unset] [] := H15
  have Fq14 := F1.seti Wp14
  have Sq14 := S1.other Wp14 hse hue
  obtain ⟨dx14, edx14⟩ : ∃ z : List Int32, z = d1.set (0) 123 := ⟨_, rfl⟩
  rw [← edx14] at Fq14
  have Fx14 := Fq14
  have Sx14 := Sq14
  have lnx14 : dx14.length = N := by rw [edx14, List.length_set]; exact ln1
  have H16 : Hr x b_expd Z EL1 1 15 hp14 [e] 26 #[.val (.int c0), .val (.int c1), .val (.int c2), .val (.int c3), .val (.int (Int32.ofNat n)), .val (.ref s), .val (.int (Int32.ofNat tx.length)), .val (.ref e), .unset] [.ref e] := H15.aload d_expd_24
  have H17 : Hr x b_expd Z EL1 1 15 hp14 [e] 27 #[.val (.int c0), .val (.int c1), .val (.int c2), .val (.int c3), .val (.int (Int32.ofNat n)), .val (.ref s), .val (.int (Int32.ofNat tx.length)), .val (.ref e), .unset] [.int (1 : Int32), .ref e] := H16.iconst d_expd_26
  have H18 : Hr x b_expd Z EL1 1 15 hp14 [e] 28 #[.val (.int c0), .val (.int c1), .val (.int c2), .val (.int c3), .val (.int (Int32.ofNat n)), .val (.ref s), .val (.int (Int32.ofNat tx.length)), .val (.ref e), .unset] [.int c0, .int (1 : Int32), .ref e] := H17.iloadN d_expd_27
  obtain ⟨hp19, Wp19, H20⟩ := H18.castore (by simp) Fx14 d_expd_28 (i := 1) rfl (by rw [List.length_map, lnx14]; omega) (hw := (nar_c (r0).1 (r0).2))
  have H20 : Hr x b_expd Z EL1 1 15 hp19 [e] 29 #[.val (.int c0), .val (.int c1), .val (.int c2), .val (.int c3), .val (.int (Int32.ofNat n)), .val (.ref s), .val (.int (Int32.ofNat tx.length)), .val (.ref e), .unset] [] := H20
  have Fq19 := Fx14.seti Wp19
  have Sq19 := Sx14.other Wp19 hse hue
  obtain ⟨dx19, edx19⟩ : ∃ z : List Int32, z = dx14.set (1) c0 := ⟨_, rfl⟩
  rw [← edx19] at Fq19
  have Fx19 := Fq19
  have Sx19 := Sq19
  have lnx19 : dx19.length = N := by rw [edx19, List.length_set]; exact lnx14
  have H21 : Hr x b_expd Z EL1 1 15 hp19 [e] 31 #[.val (.int c0), .val (.int c1), .val (.int c2), .val (.int c3), .val (.int (Int32.ofNat n)), .val (.ref s), .val (.int (Int32.ofNat tx.length)), .val (.ref e), .unset] [.int (Int32.ofNat n)] := H20.iload d_expd_29
  have H22 : Hr x b_expd Z EL1 1 15 hp19 [e] 32 #[.val (.int c0), .val (.int c1), .val (.int c2), .val (.int c3), .val (.int (Int32.ofNat n)), .val (.ref s), .val (.int (Int32.ofNat tx.length)), .val (.ref e), .unset] [.int (2 : Int32), .int (Int32.ofNat n)] := H21.iconst d_expd_31
  obtain ⟨hy23, dy23, edy23, Fy23, Sy23, lny23, H24⟩ : ∃ (h' : Heap) (d' : List Int32), d' = (if 2 ≤ n then dx19.set (2) c1 else dx19) ∧ Ar Z h' e .char (d'.map Value.int) ∧ Str Z h' s u tx ∧ d'.length = N ∧ Hr x b_expd Z EL1 1 15 h' [e] 40 #[.val (.int c0), .val (.int c1), .val (.int c2), .val (.int c3), .val (.int (Int32.ofNat n)), .val (.ref s), .val (.int (Int32.ofNat tx.length)), .val (.ref e), .unset] [] := by
    by_cases q : 2 ≤ n
    · have q2 := q
      have H25 : Hr x b_expd Z EL1 1 15 hp19 [e] 35 #[.val (.int c0), .val (.int c1), .val (.int c2), .val (.int c3), .val (.int (Int32.ofNat n)), .val (.ref s), .val (.int (Int32.ofNat tx.length)), .val (.ref e), .unset] [] := H22.icmpF d_expd_32 (XT.ii_lt_f fun z => by have := (ilt (k := 2) (by omega) (by decide)).mp z; omega)
      have H26 : Hr x b_expd Z EL1 1 15 hp19 [e] 37 #[.val (.int c0), .val (.int c1), .val (.int c2), .val (.int c3), .val (.int (Int32.ofNat n)), .val (.ref s), .val (.int (Int32.ofNat tx.length)), .val (.ref e), .unset] [.ref e] := H25.aload d_expd_35
      have H27 : Hr x b_expd Z EL1 1 15 hp19 [e] 38 #[.val (.int c0), .val (.int c1), .val (.int c2), .val (.int c3), .val (.int (Int32.ofNat n)), .val (.ref s), .val (.int (Int32.ofNat tx.length)), .val (.ref e), .unset] [.int (2 : Int32), .ref e] := H26.iconst d_expd_37
      have H28 : Hr x b_expd Z EL1 1 15 hp19 [e] 39 #[.val (.int c0), .val (.int c1), .val (.int c2), .val (.int c3), .val (.int (Int32.ofNat n)), .val (.ref s), .val (.int (Int32.ofNat tx.length)), .val (.ref e), .unset] [.int c1, .int (2 : Int32), .ref e] := H27.iloadN d_expd_38
      obtain ⟨hp29, Wp29, H30⟩ := H28.castore (by simp) Fx19 d_expd_39 (i := 2) rfl (by rw [List.length_map, lnx19]; omega) (hw := (nar_c (r1).1 (r1).2))
      have H30 : Hr x b_expd Z EL1 1 15 hp29 [e] 40 #[.val (.int c0), .val (.int c1), .val (.int c2), .val (.int c3), .val (.int (Int32.ofNat n)), .val (.ref s), .val (.int (Int32.ofNat tx.length)), .val (.ref e), .unset] [] := H30
      have Fq29 := Fx19.seti Wp29
      have Sq29 := Sx19.other Wp29 hse hue
      exact ⟨_, _, (if_pos q).symm, Fq29, Sq29, by rw [List.length_set]; exact lnx19, H30⟩
    · have q2 := q
      have H31 : Hr x b_expd Z EL1 1 15 hp19 [e] 40 #[.val (.int c0), .val (.int c1), .val (.int c2), .val (.int c3), .val (.int (Int32.ofNat n)), .val (.ref s), .val (.int (Int32.ofNat tx.length)), .val (.ref e), .unset] [] := H22.icmpT d_expd_32 (XT.ii_lt_t ((ilt (k := 2) (by omega) (by decide)).mpr (by omega)))
      exact ⟨_, _, (if_neg q).symm, Fx19, Sx19, lnx19, H31⟩
  have H32 : Hr x b_expd Z EL1 1 15 hy23 [e] 42 #[.val (.int c0), .val (.int c1), .val (.int c2), .val (.int c3), .val (.int (Int32.ofNat n)), .val (.ref s), .val (.int (Int32.ofNat tx.length)), .val (.ref e), .unset] [.int (Int32.ofNat n)] := H24.iload d_expd_40
  have H33 : Hr x b_expd Z EL1 1 15 hy23 [e] 43 #[.val (.int c0), .val (.int c1), .val (.int c2), .val (.int c3), .val (.int (Int32.ofNat n)), .val (.ref s), .val (.int (Int32.ofNat tx.length)), .val (.ref e), .unset] [.int (3 : Int32), .int (Int32.ofNat n)] := H32.iconst d_expd_42
  obtain ⟨hy34, dy34, edy34, Fy34, Sy34, lny34, H35⟩ : ∃ (h' : Heap) (d' : List Int32), d' = (if 3 ≤ n then dy23.set (3) c2 else dy23) ∧ Ar Z h' e .char (d'.map Value.int) ∧ Str Z h' s u tx ∧ d'.length = N ∧ Hr x b_expd Z EL1 1 15 h' [e] 51 #[.val (.int c0), .val (.int c1), .val (.int c2), .val (.int c3), .val (.int (Int32.ofNat n)), .val (.ref s), .val (.int (Int32.ofNat tx.length)), .val (.ref e), .unset] [] := by
    by_cases q : 3 ≤ n
    · have q2 := q
      have H36 : Hr x b_expd Z EL1 1 15 hy23 [e] 46 #[.val (.int c0), .val (.int c1), .val (.int c2), .val (.int c3), .val (.int (Int32.ofNat n)), .val (.ref s), .val (.int (Int32.ofNat tx.length)), .val (.ref e), .unset] [] := H33.icmpF d_expd_43 (XT.ii_lt_f fun z => by have := (ilt (k := 3) (by omega) (by decide)).mp z; omega)
      have H37 : Hr x b_expd Z EL1 1 15 hy23 [e] 48 #[.val (.int c0), .val (.int c1), .val (.int c2), .val (.int c3), .val (.int (Int32.ofNat n)), .val (.ref s), .val (.int (Int32.ofNat tx.length)), .val (.ref e), .unset] [.ref e] := H36.aload d_expd_46
      have H38 : Hr x b_expd Z EL1 1 15 hy23 [e] 49 #[.val (.int c0), .val (.int c1), .val (.int c2), .val (.int c3), .val (.int (Int32.ofNat n)), .val (.ref s), .val (.int (Int32.ofNat tx.length)), .val (.ref e), .unset] [.int (3 : Int32), .ref e] := H37.iconst d_expd_48
      have H39 : Hr x b_expd Z EL1 1 15 hy23 [e] 50 #[.val (.int c0), .val (.int c1), .val (.int c2), .val (.int c3), .val (.int (Int32.ofNat n)), .val (.ref s), .val (.int (Int32.ofNat tx.length)), .val (.ref e), .unset] [.int c2, .int (3 : Int32), .ref e] := H38.iloadN d_expd_49
      obtain ⟨hp40, Wp40, H41⟩ := H39.castore (by simp) Fy23 d_expd_50 (i := 3) rfl (by rw [List.length_map, lny23]; omega) (hw := (nar_c (r2).1 (r2).2))
      have H41 : Hr x b_expd Z EL1 1 15 hp40 [e] 51 #[.val (.int c0), .val (.int c1), .val (.int c2), .val (.int c3), .val (.int (Int32.ofNat n)), .val (.ref s), .val (.int (Int32.ofNat tx.length)), .val (.ref e), .unset] [] := H41
      have Fq40 := Fy23.seti Wp40
      have Sq40 := Sy23.other Wp40 hse hue
      exact ⟨_, _, (if_pos q).symm, Fq40, Sq40, by rw [List.length_set]; exact lny23, H41⟩
    · have q2 := q
      have H42 : Hr x b_expd Z EL1 1 15 hy23 [e] 51 #[.val (.int c0), .val (.int c1), .val (.int c2), .val (.int c3), .val (.int (Int32.ofNat n)), .val (.ref s), .val (.int (Int32.ofNat tx.length)), .val (.ref e), .unset] [] := H33.icmpT d_expd_43 (XT.ii_lt_t ((ilt (k := 3) (by omega) (by decide)).mpr (by omega)))
      exact ⟨_, _, (if_neg q).symm, Fy23, Sy23, lny23, H42⟩
  have H43 : Hr x b_expd Z EL1 1 15 hy34 [e] 53 #[.val (.int c0), .val (.int c1), .val (.int c2), .val (.int c3), .val (.int (Int32.ofNat n)), .val (.ref s), .val (.int (Int32.ofNat tx.length)), .val (.ref e), .unset] [.int (Int32.ofNat n)] := H35.iload d_expd_51
  have H44 : Hr x b_expd Z EL1 1 15 hy34 [e] 54 #[.val (.int c0), .val (.int c1), .val (.int c2), .val (.int c3), .val (.int (Int32.ofNat n)), .val (.ref s), .val (.int (Int32.ofNat tx.length)), .val (.ref e), .unset] [.int (4 : Int32), .int (Int32.ofNat n)] := H43.iconst d_expd_53
  obtain ⟨hy45, dy45, edy45, Fy45, Sy45, lny45, H46⟩ : ∃ (h' : Heap) (d' : List Int32), d' = (if 4 ≤ n then dy34.set (4) c3 else dy34) ∧ Ar Z h' e .char (d'.map Value.int) ∧ Str Z h' s u tx ∧ d'.length = N ∧ Hr x b_expd Z EL1 1 15 h' [e] 62 #[.val (.int c0), .val (.int c1), .val (.int c2), .val (.int c3), .val (.int (Int32.ofNat n)), .val (.ref s), .val (.int (Int32.ofNat tx.length)), .val (.ref e), .unset] [] := by
    by_cases q : 4 ≤ n
    · have q2 := q
      have H47 : Hr x b_expd Z EL1 1 15 hy34 [e] 57 #[.val (.int c0), .val (.int c1), .val (.int c2), .val (.int c3), .val (.int (Int32.ofNat n)), .val (.ref s), .val (.int (Int32.ofNat tx.length)), .val (.ref e), .unset] [] := H44.icmpF d_expd_54 (XT.ii_lt_f fun z => by have := (ilt (k := 4) (by omega) (by decide)).mp z; omega)
      have H48 : Hr x b_expd Z EL1 1 15 hy34 [e] 59 #[.val (.int c0), .val (.int c1), .val (.int c2), .val (.int c3), .val (.int (Int32.ofNat n)), .val (.ref s), .val (.int (Int32.ofNat tx.length)), .val (.ref e), .unset] [.ref e] := H47.aload d_expd_57
      have H49 : Hr x b_expd Z EL1 1 15 hy34 [e] 60 #[.val (.int c0), .val (.int c1), .val (.int c2), .val (.int c3), .val (.int (Int32.ofNat n)), .val (.ref s), .val (.int (Int32.ofNat tx.length)), .val (.ref e), .unset] [.int (4 : Int32), .ref e] := H48.iconst d_expd_59
      have H50 : Hr x b_expd Z EL1 1 15 hy34 [e] 61 #[.val (.int c0), .val (.int c1), .val (.int c2), .val (.int c3), .val (.int (Int32.ofNat n)), .val (.ref s), .val (.int (Int32.ofNat tx.length)), .val (.ref e), .unset] [.int c3, .int (4 : Int32), .ref e] := H49.iloadN d_expd_60
      obtain ⟨hp51, Wp51, H52⟩ := H50.castore (by simp) Fy34 d_expd_61 (i := 4) rfl (by rw [List.length_map, lny34]; omega) (hw := (nar_c (r3).1 (r3).2))
      have H52 : Hr x b_expd Z EL1 1 15 hp51 [e] 62 #[.val (.int c0), .val (.int c1), .val (.int c2), .val (.int c3), .val (.int (Int32.ofNat n)), .val (.ref s), .val (.int (Int32.ofNat tx.length)), .val (.ref e), .unset] [] := H52
      have Fq51 := Fy34.seti Wp51
      have Sq51 := Sy34.other Wp51 hse hue
      exact ⟨_, _, (if_pos q).symm, Fq51, Sq51, by rw [List.length_set]; exact lny34, H52⟩
    · have q2 := q
      have H53 : Hr x b_expd Z EL1 1 15 hy34 [e] 62 #[.val (.int c0), .val (.int c1), .val (.int c2), .val (.int c3), .val (.int (Int32.ofNat n)), .val (.ref s), .val (.int (Int32.ofNat tx.length)), .val (.ref e), .unset] [] := H44.icmpT d_expd_54 (XT.ii_lt_t ((ilt (k := 4) (by omega) (by decide)).mpr (by omega)))
      exact ⟨_, _, (if_neg q).symm, Fy34, Sy34, lny34, H53⟩
  have H54 : Hr x b_expd Z EL1 1 15 hy45 [e] 64 #[.val (.int c0), .val (.int c1), .val (.int c2), .val (.int c3), .val (.int (Int32.ofNat n)), .val (.ref s), .val (.int (Int32.ofNat tx.length)), .val (.ref e), .unset] [.ref e] := H46.aload d_expd_62
  have H55 : Hr x b_expd Z EL1 1 15 hy45 [e] 66 #[.val (.int c0), .val (.int c1), .val (.int c2), .val (.int c3), .val (.int (Int32.ofNat n)), .val (.ref s), .val (.int (Int32.ofNat tx.length)), .val (.ref e), .unset] [.int (Int32.ofNat n), .ref e] := H54.iload d_expd_64
  have H56 : Hr x b_expd Z EL1 1 15 hy45 [e] 67 #[.val (.int c0), .val (.int c1), .val (.int c2), .val (.int c3), .val (.int (Int32.ofNat n)), .val (.ref s), .val (.int (Int32.ofNat tx.length)), .val (.ref e), .unset] [.int (1 : Int32), .int (Int32.ofNat n), .ref e] := H55.iconst d_expd_66
  have H57 : Hr x b_expd Z EL1 1 15 hy45 [e] 68 #[.val (.int c0), .val (.int c1), .val (.int c2), .val (.int c3), .val (.int (Int32.ofNat n)), .val (.ref s), .val (.int (Int32.ofNat tx.length)), .val (.ref e), .unset] [.int (Int32.ofNat (n + 1)), .ref e] := H56.iadd d_expd_67 (hv := (ofNat_add n 1))
  have H58 : Hr x b_expd Z EL1 1 15 hy45 [e] 70 #[.val (.int c0), .val (.int c1), .val (.int c2), .val (.int c3), .val (.int (Int32.ofNat n)), .val (.ref s), .val (.int (Int32.ofNat tx.length)), .val (.ref e), .unset] [.int (125 : Int32), .int (Int32.ofNat (n + 1)), .ref e] := H57.bipush d_expd_68
  obtain ⟨hp59, Wp59, H60⟩ := H58.castore (by simp) Fy45 d_expd_70 (i := n + 1) rfl (by rw [List.length_map, lny45]; omega) (hw := (nar_c ((by decide : ¬ (125 : Int32) < 0 ∧ ¬ (255 : Int32) < 125)).1 ((by decide : ¬ (125 : Int32) < 0 ∧ ¬ (255 : Int32) < 125)).2))
  have H60 : Hr x b_expd Z EL1 1 15 hp59 [e] 71 #[.val (.int c0), .val (.int c1), .val (.int c2), .val (.int c3), .val (.int (Int32.ofNat n)), .val (.ref s), .val (.int (Int32.ofNat tx.length)), .val (.ref e), .unset] [] := H60
  have Fq59 := Fy45.seti Wp59
  have Sq59 := Sy45.other Wp59 hse hue
  obtain ⟨dx59, edx59⟩ : ∃ z : List Int32, z = dy45.set (n + 1) 125 := ⟨_, rfl⟩
  rw [← edx59] at Fq59
  have Fx59 := Fq59
  have Sx59 := Sq59
  have lnx59 : dx59.length = N := by rw [edx59, List.length_set]; exact lny45
  have H61 : Hr x b_expd Z EL1 1 15 hp59 [e] 73 #[.val (.int c0), .val (.int c1), .val (.int c2), .val (.int c3), .val (.int (Int32.ofNat n)), .val (.ref s), .val (.int (Int32.ofNat tx.length)), .val (.ref e), .unset] [.ref e] := H60.aload d_expd_71
  have H62 : Hr x b_expd Z EL1 1 15 hp59 [e] 75 #[.val (.int c0), .val (.int c1), .val (.int c2), .val (.int c3), .val (.int (Int32.ofNat n)), .val (.ref s), .val (.int (Int32.ofNat tx.length)), .val (.ref e), .unset] [.int (Int32.ofNat n), .ref e] := H61.iload d_expd_73
  have H63 : Hr x b_expd Z EL1 1 15 hp59 [e] 76 #[.val (.int c0), .val (.int c1), .val (.int c2), .val (.int c3), .val (.int (Int32.ofNat n)), .val (.ref s), .val (.int (Int32.ofNat tx.length)), .val (.ref e), .unset] [.int (2 : Int32), .int (Int32.ofNat n), .ref e] := H62.iconst d_expd_75
  have H64 : Hr x b_expd Z EL1 1 15 hp59 [e] 77 #[.val (.int c0), .val (.int c1), .val (.int c2), .val (.int c3), .val (.int (Int32.ofNat n)), .val (.ref s), .val (.int (Int32.ofNat tx.length)), .val (.ref e), .unset] [.int (Int32.ofNat (n + 2)), .ref e] := H63.iadd d_expd_76 (hv := (ofNat_add n 2))
  have H65 : Hr x b_expd Z EL1 1 15 hp59 [e] 79 #[.val (.int c0), .val (.int c1), .val (.int c2), .val (.int c3), .val (.int (Int32.ofNat n)), .val (.ref s), .val (.int (Int32.ofNat tx.length)), .val (.ref e), .unset] [.int (58 : Int32), .int (Int32.ofNat (n + 2)), .ref e] := H64.bipush d_expd_77
  obtain ⟨hp66, Wp66, H67⟩ := H65.castore (by simp) Fx59 d_expd_79 (i := n + 2) rfl (by rw [List.length_map, lnx59]; omega) (hw := (nar_c ((by decide : ¬ (58 : Int32) < 0 ∧ ¬ (255 : Int32) < 58)).1 ((by decide : ¬ (58 : Int32) < 0 ∧ ¬ (255 : Int32) < 58)).2))
  have H67 : Hr x b_expd Z EL1 1 15 hp66 [e] 80 #[.val (.int c0), .val (.int c1), .val (.int c2), .val (.int c3), .val (.int (Int32.ofNat n)), .val (.ref s), .val (.int (Int32.ofNat tx.length)), .val (.ref e), .unset] [] := H67
  have Fq66 := Fx59.seti Wp66
  have Sq66 := Sx59.other Wp66 hse hue
  obtain ⟨dx66, edx66⟩ : ∃ z : List Int32, z = dx59.set (n + 2) 58 := ⟨_, rfl⟩
  rw [← edx66] at Fq66
  have Fx66 := Fq66
  have Sx66 := Sq66
  have lnx66 : dx66.length = N := by rw [edx66, List.length_set]; exact lnx59
  have H68 : Hr x b_expd Z EL1 1 15 hp66 [e] 82 #[.val (.int c0), .val (.int c1), .val (.int c2), .val (.int c3), .val (.int (Int32.ofNat n)), .val (.ref s), .val (.int (Int32.ofNat tx.length)), .val (.ref e), .unset] [.int (Int32.ofNat n)] := H67.iload d_expd_80
  have H69 : Hr x b_expd Z EL1 1 15 hp66 [e] 83 #[.val (.int c0), .val (.int c1), .val (.int c2), .val (.int c3), .val (.int (Int32.ofNat n)), .val (.ref s), .val (.int (Int32.ofNat tx.length)), .val (.ref e), .unset] [.int (3 : Int32), .int (Int32.ofNat n)] := H68.iconst d_expd_82
  have H70 : Hr x b_expd Z EL1 1 15 hp66 [e] 84 #[.val (.int c0), .val (.int c1), .val (.int c2), .val (.int c3), .val (.int (Int32.ofNat n)), .val (.ref s), .val (.int (Int32.ofNat tx.length)), .val (.ref e), .unset] [.int (Int32.ofNat (n + 3))] := H69.iadd d_expd_83 (hv := (ofNat_add n 3))
  have H71 : Hr x b_expd Z EL1 1 15 hp66 [e] 86 #[.val (.int c0), .val (.int c1), .val (.int c2), .val (.int c3), .val (.int (Int32.ofNat n)), .val (.ref s), .val (.int (Int32.ofNat tx.length)), .val (.ref e), .val (.int (Int32.ofNat (n + 3)))] [] := H70.istore d_expd_84
  have H72 : Hr x b_expd Z EL1 1 15 hp66 [e] 88 #[.val (.int c0), .val (.int c1), .val (.int c2), .val (.int c3), .val (.int (Int32.ofNat n)), .val (.ref s), .val (.int (Int32.ofNat tx.length)), .val (.ref e), .val (.int (Int32.ofNat (n + 3)))] [.int (Int32.ofNat tx.length)] := H71.iload d_expd_86
  obtain ⟨hy73, dy73, edy73, Fy73, Sy73, lny73, H74⟩ : ∃ (h' : Heap) (d' : List Int32), d' = (if 0 < tx.length then dx66.set (n + 3) (u8 (tx.getD 0 0)) else dx66) ∧ Ar Z h' e .char (d'.map Value.int) ∧ Str Z h' s u tx ∧ d'.length = N ∧ Hr x b_expd Z EL1 1 15 h' [e] 102 #[.val (.int c0), .val (.int c1), .val (.int c2), .val (.int c3), .val (.int (Int32.ofNat n)), .val (.ref s), .val (.int (Int32.ofNat tx.length)), .val (.ref e), .val (.int (Int32.ofNat (n + 3)))] [] := by
    by_cases q : 0 < tx.length
    · have q2 := q
      have H75 : Hr x b_expd Z EL1 1 15 hp66 [e] 91 #[.val (.int c0), .val (.int c1), .val (.int c2), .val (.int c3), .val (.int (Int32.ofNat n)), .val (.ref s), .val (.int (Int32.ofNat tx.length)), .val (.ref e), .val (.int (Int32.ofNat (n + 3)))] [] := H72.ifF d_expd_88 (XT.i0_le_f ((ilt (n := 0) (by decide) (by omega)).mpr q))
      have H76 : Hr x b_expd Z EL1 1 15 hp66 [e] 93 #[.val (.int c0), .val (.int c1), .val (.int c2), .val (.int c3), .val (.int (Int32.ofNat n)), .val (.ref s), .val (.int (Int32.ofNat tx.length)), .val (.ref e), .val (.int (Int32.ofNat (n + 3)))] [.ref e] := H75.aload d_expd_91
      have H77 : Hr x b_expd Z EL1 1 15 hp66 [e] 95 #[.val (.int c0), .val (.int c1), .val (.int c2), .val (.int c3), .val (.int (Int32.ofNat n)), .val (.ref s), .val (.int (Int32.ofNat tx.length)), .val (.ref e), .val (.int (Int32.ofNat (n + 3)))] [.int (Int32.ofNat (n + 3)), .ref e] := H76.iload d_expd_93
      have H78 : Hr x b_expd Z EL1 1 15 hp66 [e] 97 #[.val (.int c0), .val (.int c1), .val (.int c2), .val (.int c3), .val (.int (Int32.ofNat n)), .val (.ref s), .val (.int (Int32.ofNat tx.length)), .val (.ref e), .val (.int (Int32.ofNat (n + 3)))] [.ref s, .int (Int32.ofNat (n + 3)), .ref e] := H77.aload d_expd_95
      have H79 : Hr x b_expd Z EL1 1 15 hp66 [e] 98 #[.val (.int c0), .val (.int c1), .val (.int c2), .val (.int c3), .val (.int (Int32.ofNat n)), .val (.ref s), .val (.int (Int32.ofNat tx.length)), .val (.ref e), .val (.int (Int32.ofNat (n + 3)))] [.int (0 : Int32), .ref s, .int (Int32.ofNat (n + 3)), .ref e] := H78.iconst d_expd_97
      obtain ⟨_, hc, _, ⟨rfl, rfl, ec⟩, Kc, H80⟩ := H79.callV (argsL := [.int (0 : Int32)]) (rest := [.int (Int32.ofNat (n + 3)), .ref e]) (Wr := 2) (a := s) (ct_scha hw x.l x.nar x.kn hnar hp66 s u 0 tx Sx66 (by omega) f hfr P cz O hcz) sub0 Sx66.1 (w115 hw) (w116 hw) (w118 hw) (w118 hw) (w117 hw) (w7 hw) (w119 hw) d_expd_98 pd_scha rfl (hf := by first | (simp [b_expd, Bx.R]; done) | (simp [b_expd, Bx.R]; omega)) (hl := by first | (simp [b_expd, Bx.R]; done) | (simp [b_expd, Bx.R]; omega)) (hc := by first | (simp [b_expd, Bx.R]; done) | (simp [b_expd, Bx.R]; omega)) (hs := by first | (simp [b_expd, Bx.R]; done) | (simp [b_expd, Bx.R]; omega))
      rw [ec] at H80
      have H80 : Hr x b_expd Z EL1 1 15 hp66 [e] 101 #[.val (.int c0), .val (.int c1), .val (.int c2), .val (.int c3), .val (.int (Int32.ofNat n)), .val (.ref s), .val (.int (Int32.ofNat tx.length)), .val (.ref e), .val (.int (Int32.ofNat (n + 3)))] [.int (u8 (tx.getD 0 0)), .int (Int32.ofNat (n + 3)), .ref e] := H80
      obtain ⟨hp81, Wp81, H82⟩ := H80.castore (by simp) Fx66 d_expd_101 (i := n + 3) rfl (by rw [List.length_map, lnx66]; omega) (hw := (nar_c (u8_rng _).1 (u8_rng _).2))
      have H82 : Hr x b_expd Z EL1 1 15 hp81 [e] 102 #[.val (.int c0), .val (.int c1), .val (.int c2), .val (.int c3), .val (.int (Int32.ofNat n)), .val (.ref s), .val (.int (Int32.ofNat tx.length)), .val (.ref e), .val (.int (Int32.ofNat (n + 3)))] [] := H82
      have Fq81 := Fx66.seti Wp81
      have Sq81 := Sx66.other Wp81 hse hue
      exact ⟨_, _, (if_pos q).symm, Fq81, Sq81, by rw [List.length_set]; exact lnx66, H82⟩
    · have q2 := q
      have H83 : Hr x b_expd Z EL1 1 15 hp66 [e] 102 #[.val (.int c0), .val (.int c1), .val (.int c2), .val (.int c3), .val (.int (Int32.ofNat n)), .val (.ref s), .val (.int (Int32.ofNat tx.length)), .val (.ref e), .val (.int (Int32.ofNat (n + 3)))] [] := H72.ifT d_expd_88 (XT.i0_le_t fun z => q ((ilt (n := 0) (by decide) (by omega)).mp z))
      exact ⟨_, _, (if_neg q).symm, Fx66, Sx66, lnx66, H83⟩
  have H84 : Hr x b_expd Z EL1 1 15 hy73 [e] 104 #[.val (.int c0), .val (.int c1), .val (.int c2), .val (.int c3), .val (.int (Int32.ofNat n)), .val (.ref s), .val (.int (Int32.ofNat tx.length)), .val (.ref e), .val (.int (Int32.ofNat (n + 3)))] [.int (Int32.ofNat tx.length)] := H74.iload d_expd_102
  have H85 : Hr x b_expd Z EL1 1 15 hy73 [e] 105 #[.val (.int c0), .val (.int c1), .val (.int c2), .val (.int c3), .val (.int (Int32.ofNat n)), .val (.ref s), .val (.int (Int32.ofNat tx.length)), .val (.ref e), .val (.int (Int32.ofNat (n + 3)))] [.int (1 : Int32), .int (Int32.ofNat tx.length)] := H84.iconst d_expd_104
  obtain ⟨hy86, dy86, edy86, Fy86, Sy86, lny86, H87⟩ : ∃ (h' : Heap) (d' : List Int32), d' = (if 1 < tx.length then dy73.set (n + 3 + 1) (u8 (tx.getD 1 0)) else dy73) ∧ Ar Z h' e .char (d'.map Value.int) ∧ Str Z h' s u tx ∧ d'.length = N ∧ Hr x b_expd Z EL1 1 15 h' [e] 121 #[.val (.int c0), .val (.int c1), .val (.int c2), .val (.int c3), .val (.int (Int32.ofNat n)), .val (.ref s), .val (.int (Int32.ofNat tx.length)), .val (.ref e), .val (.int (Int32.ofNat (n + 3)))] [] := by
    by_cases q : 1 < tx.length
    · have q2 := q
      have H88 : Hr x b_expd Z EL1 1 15 hy73 [e] 108 #[.val (.int c0), .val (.int c1), .val (.int c2), .val (.int c3), .val (.int (Int32.ofNat n)), .val (.ref s), .val (.int (Int32.ofNat tx.length)), .val (.ref e), .val (.int (Int32.ofNat (n + 3)))] [] := H85.icmpF d_expd_105 (XT.ii_le_f ((ilt (n := 1) (by decide) (by omega)).mpr q))
      have H89 : Hr x b_expd Z EL1 1 15 hy73 [e] 110 #[.val (.int c0), .val (.int c1), .val (.int c2), .val (.int c3), .val (.int (Int32.ofNat n)), .val (.ref s), .val (.int (Int32.ofNat tx.length)), .val (.ref e), .val (.int (Int32.ofNat (n + 3)))] [.ref e] := H88.aload d_expd_108
      have H90 : Hr x b_expd Z EL1 1 15 hy73 [e] 112 #[.val (.int c0), .val (.int c1), .val (.int c2), .val (.int c3), .val (.int (Int32.ofNat n)), .val (.ref s), .val (.int (Int32.ofNat tx.length)), .val (.ref e), .val (.int (Int32.ofNat (n + 3)))] [.int (Int32.ofNat (n + 3)), .ref e] := H89.iload d_expd_110
      have H91 : Hr x b_expd Z EL1 1 15 hy73 [e] 113 #[.val (.int c0), .val (.int c1), .val (.int c2), .val (.int c3), .val (.int (Int32.ofNat n)), .val (.ref s), .val (.int (Int32.ofNat tx.length)), .val (.ref e), .val (.int (Int32.ofNat (n + 3)))] [.int (1 : Int32), .int (Int32.ofNat (n + 3)), .ref e] := H90.iconst d_expd_112
      have H92 : Hr x b_expd Z EL1 1 15 hy73 [e] 114 #[.val (.int c0), .val (.int c1), .val (.int c2), .val (.int c3), .val (.int (Int32.ofNat n)), .val (.ref s), .val (.int (Int32.ofNat tx.length)), .val (.ref e), .val (.int (Int32.ofNat (n + 3)))] [.int (Int32.ofNat (n + 3 + 1)), .ref e] := H91.iadd d_expd_113 (hv := (ofNat_add (n + 3) 1))
      have H93 : Hr x b_expd Z EL1 1 15 hy73 [e] 116 #[.val (.int c0), .val (.int c1), .val (.int c2), .val (.int c3), .val (.int (Int32.ofNat n)), .val (.ref s), .val (.int (Int32.ofNat tx.length)), .val (.ref e), .val (.int (Int32.ofNat (n + 3)))] [.ref s, .int (Int32.ofNat (n + 3 + 1)), .ref e] := H92.aload d_expd_114
      have H94 : Hr x b_expd Z EL1 1 15 hy73 [e] 117 #[.val (.int c0), .val (.int c1), .val (.int c2), .val (.int c3), .val (.int (Int32.ofNat n)), .val (.ref s), .val (.int (Int32.ofNat tx.length)), .val (.ref e), .val (.int (Int32.ofNat (n + 3)))] [.int (1 : Int32), .ref s, .int (Int32.ofNat (n + 3 + 1)), .ref e] := H93.iconst d_expd_116
      obtain ⟨_, hc, _, ⟨rfl, rfl, ec⟩, Kc, H95⟩ := H94.callV (argsL := [.int (1 : Int32)]) (rest := [.int (Int32.ofNat (n + 3 + 1)), .ref e]) (Wr := 2) (a := s) (ct_scha hw x.l x.nar x.kn hnar hy73 s u 1 tx Sy73 (by omega) f hfr P cz O hcz) sub0 Sy73.1 (w115 hw) (w116 hw) (w118 hw) (w118 hw) (w117 hw) (w7 hw) (w119 hw) d_expd_117 pd_scha rfl (hf := by first | (simp [b_expd, Bx.R]; done) | (simp [b_expd, Bx.R]; omega)) (hl := by first | (simp [b_expd, Bx.R]; done) | (simp [b_expd, Bx.R]; omega)) (hc := by first | (simp [b_expd, Bx.R]; done) | (simp [b_expd, Bx.R]; omega)) (hs := by first | (simp [b_expd, Bx.R]; done) | (simp [b_expd, Bx.R]; omega))
      rw [ec] at H95
      have H95 : Hr x b_expd Z EL1 1 15 hy73 [e] 120 #[.val (.int c0), .val (.int c1), .val (.int c2), .val (.int c3), .val (.int (Int32.ofNat n)), .val (.ref s), .val (.int (Int32.ofNat tx.length)), .val (.ref e), .val (.int (Int32.ofNat (n + 3)))] [.int (u8 (tx.getD 1 0)), .int (Int32.ofNat (n + 3 + 1)), .ref e] := H95
      obtain ⟨hp96, Wp96, H97⟩ := H95.castore (by simp) Fy73 d_expd_120 (i := n + 3 + 1) rfl (by rw [List.length_map, lny73]; omega) (hw := (nar_c (u8_rng _).1 (u8_rng _).2))
      have H97 : Hr x b_expd Z EL1 1 15 hp96 [e] 121 #[.val (.int c0), .val (.int c1), .val (.int c2), .val (.int c3), .val (.int (Int32.ofNat n)), .val (.ref s), .val (.int (Int32.ofNat tx.length)), .val (.ref e), .val (.int (Int32.ofNat (n + 3)))] [] := H97
      have Fq96 := Fy73.seti Wp96
      have Sq96 := Sy73.other Wp96 hse hue
      exact ⟨_, _, (if_pos q).symm, Fq96, Sq96, by rw [List.length_set]; exact lny73, H97⟩
    · have q2 := q
      have H98 : Hr x b_expd Z EL1 1 15 hy73 [e] 121 #[.val (.int c0), .val (.int c1), .val (.int c2), .val (.int c3), .val (.int (Int32.ofNat n)), .val (.ref s), .val (.int (Int32.ofNat tx.length)), .val (.ref e), .val (.int (Int32.ofNat (n + 3)))] [] := H85.icmpT d_expd_105 (XT.ii_le_t fun z => q ((ilt (n := 1) (by decide) (by omega)).mp z))
      exact ⟨_, _, (if_neg q).symm, Fy73, Sy73, lny73, H98⟩
  have H99 : Hr x b_expd Z EL1 1 15 hy86 [e] 123 #[.val (.int c0), .val (.int c1), .val (.int c2), .val (.int c3), .val (.int (Int32.ofNat n)), .val (.ref s), .val (.int (Int32.ofNat tx.length)), .val (.ref e), .val (.int (Int32.ofNat (n + 3)))] [.int (Int32.ofNat tx.length)] := H87.iload d_expd_121
  have H100 : Hr x b_expd Z EL1 1 15 hy86 [e] 124 #[.val (.int c0), .val (.int c1), .val (.int c2), .val (.int c3), .val (.int (Int32.ofNat n)), .val (.ref s), .val (.int (Int32.ofNat tx.length)), .val (.ref e), .val (.int (Int32.ofNat (n + 3)))] [.int (2 : Int32), .int (Int32.ofNat tx.length)] := H99.iconst d_expd_123
  obtain ⟨hy101, dy101, edy101, Fy101, Sy101, lny101, H102⟩ : ∃ (h' : Heap) (d' : List Int32), d' = (if 2 < tx.length then dy86.set (n + 3 + 2) (u8 (tx.getD 2 0)) else dy86) ∧ Ar Z h' e .char (d'.map Value.int) ∧ Str Z h' s u tx ∧ d'.length = N ∧ Hr x b_expd Z EL1 1 15 h' [e] 140 #[.val (.int c0), .val (.int c1), .val (.int c2), .val (.int c3), .val (.int (Int32.ofNat n)), .val (.ref s), .val (.int (Int32.ofNat tx.length)), .val (.ref e), .val (.int (Int32.ofNat (n + 3)))] [] := by
    by_cases q : 2 < tx.length
    · have q2 := q
      have H103 : Hr x b_expd Z EL1 1 15 hy86 [e] 127 #[.val (.int c0), .val (.int c1), .val (.int c2), .val (.int c3), .val (.int (Int32.ofNat n)), .val (.ref s), .val (.int (Int32.ofNat tx.length)), .val (.ref e), .val (.int (Int32.ofNat (n + 3)))] [] := H100.icmpF d_expd_124 (XT.ii_le_f ((ilt (n := 2) (by decide) (by omega)).mpr q))
      have H104 : Hr x b_expd Z EL1 1 15 hy86 [e] 129 #[.val (.int c0), .val (.int c1), .val (.int c2), .val (.int c3), .val (.int (Int32.ofNat n)), .val (.ref s), .val (.int (Int32.ofNat tx.length)), .val (.ref e), .val (.int (Int32.ofNat (n + 3)))] [.ref e] := H103.aload d_expd_127
      have H105 : Hr x b_expd Z EL1 1 15 hy86 [e] 131 #[.val (.int c0), .val (.int c1), .val (.int c2), .val (.int c3), .val (.int (Int32.ofNat n)), .val (.ref s), .val (.int (Int32.ofNat tx.length)), .val (.ref e), .val (.int (Int32.ofNat (n + 3)))] [.int (Int32.ofNat (n + 3)), .ref e] := H104.iload d_expd_129
      have H106 : Hr x b_expd Z EL1 1 15 hy86 [e] 132 #[.val (.int c0), .val (.int c1), .val (.int c2), .val (.int c3), .val (.int (Int32.ofNat n)), .val (.ref s), .val (.int (Int32.ofNat tx.length)), .val (.ref e), .val (.int (Int32.ofNat (n + 3)))] [.int (2 : Int32), .int (Int32.ofNat (n + 3)), .ref e] := H105.iconst d_expd_131
      have H107 : Hr x b_expd Z EL1 1 15 hy86 [e] 133 #[.val (.int c0), .val (.int c1), .val (.int c2), .val (.int c3), .val (.int (Int32.ofNat n)), .val (.ref s), .val (.int (Int32.ofNat tx.length)), .val (.ref e), .val (.int (Int32.ofNat (n + 3)))] [.int (Int32.ofNat (n + 3 + 2)), .ref e] := H106.iadd d_expd_132 (hv := (ofNat_add (n + 3) 2))
      have H108 : Hr x b_expd Z EL1 1 15 hy86 [e] 135 #[.val (.int c0), .val (.int c1), .val (.int c2), .val (.int c3), .val (.int (Int32.ofNat n)), .val (.ref s), .val (.int (Int32.ofNat tx.length)), .val (.ref e), .val (.int (Int32.ofNat (n + 3)))] [.ref s, .int (Int32.ofNat (n + 3 + 2)), .ref e] := H107.aload d_expd_133
      have H109 : Hr x b_expd Z EL1 1 15 hy86 [e] 136 #[.val (.int c0), .val (.int c1), .val (.int c2), .val (.int c3), .val (.int (Int32.ofNat n)), .val (.ref s), .val (.int (Int32.ofNat tx.length)), .val (.ref e), .val (.int (Int32.ofNat (n + 3)))] [.int (2 : Int32), .ref s, .int (Int32.ofNat (n + 3 + 2)), .ref e] := H108.iconst d_expd_135
      obtain ⟨_, hc, _, ⟨rfl, rfl, ec⟩, Kc, H110⟩ := H109.callV (argsL := [.int (2 : Int32)]) (rest := [.int (Int32.ofNat (n + 3 + 2)), .ref e]) (Wr := 2) (a := s) (ct_scha hw x.l x.nar x.kn hnar hy86 s u 2 tx Sy86 (by omega) f hfr P cz O hcz) sub0 Sy86.1 (w115 hw) (w116 hw) (w118 hw) (w118 hw) (w117 hw) (w7 hw) (w119 hw) d_expd_136 pd_scha rfl (hf := by first | (simp [b_expd, Bx.R]; done) | (simp [b_expd, Bx.R]; omega)) (hl := by first | (simp [b_expd, Bx.R]; done) | (simp [b_expd, Bx.R]; omega)) (hc := by first | (simp [b_expd, Bx.R]; done) | (simp [b_expd, Bx.R]; omega)) (hs := by first | (simp [b_expd, Bx.R]; done) | (simp [b_expd, Bx.R]; omega))
      rw [ec] at H110
      have H110 : Hr x b_expd Z EL1 1 15 hy86 [e] 139 #[.val (.int c0), .val (.int c1), .val (.int c2), .val (.int c3), .val (.int (Int32.ofNat n)), .val (.ref s), .val (.int (Int32.ofNat tx.length)), .val (.ref e), .val (.int (Int32.ofNat (n + 3)))] [.int (u8 (tx.getD 2 0)), .int (Int32.ofNat (n + 3 + 2)), .ref e] := H110
      obtain ⟨hp111, Wp111, H112⟩ := H110.castore (by simp) Fy86 d_expd_139 (i := n + 3 + 2) rfl (by rw [List.length_map, lny86]; omega) (hw := (nar_c (u8_rng _).1 (u8_rng _).2))
      have H112 : Hr x b_expd Z EL1 1 15 hp111 [e] 140 #[.val (.int c0), .val (.int c1), .val (.int c2), .val (.int c3), .val (.int (Int32.ofNat n)), .val (.ref s), .val (.int (Int32.ofNat tx.length)), .val (.ref e), .val (.int (Int32.ofNat (n + 3)))] [] := H112
      have Fq111 := Fy86.seti Wp111
      have Sq111 := Sy86.other Wp111 hse hue
      exact ⟨_, _, (if_pos q).symm, Fq111, Sq111, by rw [List.length_set]; exact lny86, H112⟩
    · have q2 := q
      have H113 : Hr x b_expd Z EL1 1 15 hy86 [e] 140 #[.val (.int c0), .val (.int c1), .val (.int c2), .val (.int c3), .val (.int (Int32.ofNat n)), .val (.ref s), .val (.int (Int32.ofNat tx.length)), .val (.ref e), .val (.int (Int32.ofNat (n + 3)))] [] := H100.icmpT d_expd_124 (XT.ii_le_t fun z => q ((ilt (n := 2) (by decide) (by omega)).mp z))
      exact ⟨_, _, (if_neg q).symm, Fy86, Sy86, lny86, H113⟩
  have H114 : Hr x b_expd Z EL1 1 15 hy101 [e] 142 #[.val (.int c0), .val (.int c1), .val (.int c2), .val (.int c3), .val (.int (Int32.ofNat n)), .val (.ref s), .val (.int (Int32.ofNat tx.length)), .val (.ref e), .val (.int (Int32.ofNat (n + 3)))] [.int (Int32.ofNat tx.length)] := H102.iload d_expd_140
  have H115 : Hr x b_expd Z EL1 1 15 hy101 [e] 143 #[.val (.int c0), .val (.int c1), .val (.int c2), .val (.int c3), .val (.int (Int32.ofNat n)), .val (.ref s), .val (.int (Int32.ofNat tx.length)), .val (.ref e), .val (.int (Int32.ofNat (n + 3)))] [.int (3 : Int32), .int (Int32.ofNat tx.length)] := H114.iconst d_expd_142
  obtain ⟨hy116, dy116, edy116, Fy116, Sy116, lny116, H117⟩ : ∃ (h' : Heap) (d' : List Int32), d' = (if 3 < tx.length then dy101.set (n + 3 + 3) (u8 (tx.getD 3 0)) else dy101) ∧ Ar Z h' e .char (d'.map Value.int) ∧ Str Z h' s u tx ∧ d'.length = N ∧ Hr x b_expd Z EL1 1 15 h' [e] 159 #[.val (.int c0), .val (.int c1), .val (.int c2), .val (.int c3), .val (.int (Int32.ofNat n)), .val (.ref s), .val (.int (Int32.ofNat tx.length)), .val (.ref e), .val (.int (Int32.ofNat (n + 3)))] [] := by
    by_cases q : 3 < tx.length
    · have q2 := q
      have H118 : Hr x b_expd Z EL1 1 15 hy101 [e] 146 #[.val (.int c0), .val (.int c1), .val (.int c2), .val (.int c3), .val (.int (Int32.ofNat n)), .val (.ref s), .val (.int (Int32.ofNat tx.length)), .val (.ref e), .val (.int (Int32.ofNat (n + 3)))] [] := H115.icmpF d_expd_143 (XT.ii_le_f ((ilt (n := 3) (by decide) (by omega)).mpr q))
      have H119 : Hr x b_expd Z EL1 1 15 hy101 [e] 148 #[.val (.int c0), .val (.int c1), .val (.int c2), .val (.int c3), .val (.int (Int32.ofNat n)), .val (.ref s), .val (.int (Int32.ofNat tx.length)), .val (.ref e), .val (.int (Int32.ofNat (n + 3)))] [.ref e] := H118.aload d_expd_146
      have H120 : Hr x b_expd Z EL1 1 15 hy101 [e] 150 #[.val (.int c0), .val (.int c1), .val (.int c2), .val (.int c3), .val (.int (Int32.ofNat n)), .val (.ref s), .val (.int (Int32.ofNat tx.length)), .val (.ref e), .val (.int (Int32.ofNat (n + 3)))] [.int (Int32.ofNat (n + 3)), .ref e] := H119.iload d_expd_148
      have H121 : Hr x b_expd Z EL1 1 15 hy101 [e] 151 #[.val (.int c0), .val (.int c1), .val (.int c2), .val (.int c3), .val (.int (Int32.ofNat n)), .val (.ref s), .val (.int (Int32.ofNat tx.length)), .val (.ref e), .val (.int (Int32.ofNat (n + 3)))] [.int (3 : Int32), .int (Int32.ofNat (n + 3)), .ref e] := H120.iconst d_expd_150
      have H122 : Hr x b_expd Z EL1 1 15 hy101 [e] 152 #[.val (.int c0), .val (.int c1), .val (.int c2), .val (.int c3), .val (.int (Int32.ofNat n)), .val (.ref s), .val (.int (Int32.ofNat tx.length)), .val (.ref e), .val (.int (Int32.ofNat (n + 3)))] [.int (Int32.ofNat (n + 3 + 3)), .ref e] := H121.iadd d_expd_151 (hv := (ofNat_add (n + 3) 3))
      have H123 : Hr x b_expd Z EL1 1 15 hy101 [e] 154 #[.val (.int c0), .val (.int c1), .val (.int c2), .val (.int c3), .val (.int (Int32.ofNat n)), .val (.ref s), .val (.int (Int32.ofNat tx.length)), .val (.ref e), .val (.int (Int32.ofNat (n + 3)))] [.ref s, .int (Int32.ofNat (n + 3 + 3)), .ref e] := H122.aload d_expd_152
      have H124 : Hr x b_expd Z EL1 1 15 hy101 [e] 155 #[.val (.int c0), .val (.int c1), .val (.int c2), .val (.int c3), .val (.int (Int32.ofNat n)), .val (.ref s), .val (.int (Int32.ofNat tx.length)), .val (.ref e), .val (.int (Int32.ofNat (n + 3)))] [.int (3 : Int32), .ref s, .int (Int32.ofNat (n + 3 + 3)), .ref e] := H123.iconst d_expd_154
      obtain ⟨_, hc, _, ⟨rfl, rfl, ec⟩, Kc, H125⟩ := H124.callV (argsL := [.int (3 : Int32)]) (rest := [.int (Int32.ofNat (n + 3 + 3)), .ref e]) (Wr := 2) (a := s) (ct_scha hw x.l x.nar x.kn hnar hy101 s u 3 tx Sy101 (by omega) f hfr P cz O hcz) sub0 Sy101.1 (w115 hw) (w116 hw) (w118 hw) (w118 hw) (w117 hw) (w7 hw) (w119 hw) d_expd_155 pd_scha rfl (hf := by first | (simp [b_expd, Bx.R]; done) | (simp [b_expd, Bx.R]; omega)) (hl := by first | (simp [b_expd, Bx.R]; done) | (simp [b_expd, Bx.R]; omega)) (hc := by first | (simp [b_expd, Bx.R]; done) | (simp [b_expd, Bx.R]; omega)) (hs := by first | (simp [b_expd, Bx.R]; done) | (simp [b_expd, Bx.R]; omega))
      rw [ec] at H125
      have H125 : Hr x b_expd Z EL1 1 15 hy101 [e] 158 #[.val (.int c0), .val (.int c1), .val (.int c2), .val (.int c3), .val (.int (Int32.ofNat n)), .val (.ref s), .val (.int (Int32.ofNat tx.length)), .val (.ref e), .val (.int (Int32.ofNat (n + 3)))] [.int (u8 (tx.getD 3 0)), .int (Int32.ofNat (n + 3 + 3)), .ref e] := H125
      obtain ⟨hp126, Wp126, H127⟩ := H125.castore (by simp) Fy101 d_expd_158 (i := n + 3 + 3) rfl (by rw [List.length_map, lny101]; omega) (hw := (nar_c (u8_rng _).1 (u8_rng _).2))
      have H127 : Hr x b_expd Z EL1 1 15 hp126 [e] 159 #[.val (.int c0), .val (.int c1), .val (.int c2), .val (.int c3), .val (.int (Int32.ofNat n)), .val (.ref s), .val (.int (Int32.ofNat tx.length)), .val (.ref e), .val (.int (Int32.ofNat (n + 3)))] [] := H127
      have Fq126 := Fy101.seti Wp126
      have Sq126 := Sy101.other Wp126 hse hue
      exact ⟨_, _, (if_pos q).symm, Fq126, Sq126, by rw [List.length_set]; exact lny101, H127⟩
    · have q2 := q
      have H128 : Hr x b_expd Z EL1 1 15 hy101 [e] 159 #[.val (.int c0), .val (.int c1), .val (.int c2), .val (.int c3), .val (.int (Int32.ofNat n)), .val (.ref s), .val (.int (Int32.ofNat tx.length)), .val (.ref e), .val (.int (Int32.ofNat (n + 3)))] [] := H115.icmpT d_expd_143 (XT.ii_le_t fun z => q ((ilt (n := 3) (by decide) (by omega)).mp z))
      exact ⟨_, _, (if_neg q).symm, Fy101, Sy101, lny101, H128⟩
  have H129 : Hr x b_expd Z EL1 1 15 hy116 [e] 161 #[.val (.int c0), .val (.int c1), .val (.int c2), .val (.int c3), .val (.int (Int32.ofNat n)), .val (.ref s), .val (.int (Int32.ofNat tx.length)), .val (.ref e), .val (.int (Int32.ofNat (n + 3)))] [.int (Int32.ofNat tx.length)] := H117.iload d_expd_159
  have H130 : Hr x b_expd Z EL1 1 15 hy116 [e] 162 #[.val (.int c0), .val (.int c1), .val (.int c2), .val (.int c3), .val (.int (Int32.ofNat n)), .val (.ref s), .val (.int (Int32.ofNat tx.length)), .val (.ref e), .val (.int (Int32.ofNat (n + 3)))] [.int (4 : Int32), .int (Int32.ofNat tx.length)] := H129.iconst d_expd_161
  obtain ⟨hy131, dy131, edy131, Fy131, Sy131, lny131, H132⟩ : ∃ (h' : Heap) (d' : List Int32), d' = (if 4 < tx.length then dy116.set (n + 3 + 4) (u8 (tx.getD 4 0)) else dy116) ∧ Ar Z h' e .char (d'.map Value.int) ∧ Str Z h' s u tx ∧ d'.length = N ∧ Hr x b_expd Z EL1 1 15 h' [e] 178 #[.val (.int c0), .val (.int c1), .val (.int c2), .val (.int c3), .val (.int (Int32.ofNat n)), .val (.ref s), .val (.int (Int32.ofNat tx.length)), .val (.ref e), .val (.int (Int32.ofNat (n + 3)))] [] := by
    by_cases q : 4 < tx.length
    · have q2 := q
      have H133 : Hr x b_expd Z EL1 1 15 hy116 [e] 165 #[.val (.int c0), .val (.int c1), .val (.int c2), .val (.int c3), .val (.int (Int32.ofNat n)), .val (.ref s), .val (.int (Int32.ofNat tx.length)), .val (.ref e), .val (.int (Int32.ofNat (n + 3)))] [] := H130.icmpF d_expd_162 (XT.ii_le_f ((ilt (n := 4) (by decide) (by omega)).mpr q))
      have H134 : Hr x b_expd Z EL1 1 15 hy116 [e] 167 #[.val (.int c0), .val (.int c1), .val (.int c2), .val (.int c3), .val (.int (Int32.ofNat n)), .val (.ref s), .val (.int (Int32.ofNat tx.length)), .val (.ref e), .val (.int (Int32.ofNat (n + 3)))] [.ref e] := H133.aload d_expd_165
      have H135 : Hr x b_expd Z EL1 1 15 hy116 [e] 169 #[.val (.int c0), .val (.int c1), .val (.int c2), .val (.int c3), .val (.int (Int32.ofNat n)), .val (.ref s), .val (.int (Int32.ofNat tx.length)), .val (.ref e), .val (.int (Int32.ofNat (n + 3)))] [.int (Int32.ofNat (n + 3)), .ref e] := H134.iload d_expd_167
      have H136 : Hr x b_expd Z EL1 1 15 hy116 [e] 170 #[.val (.int c0), .val (.int c1), .val (.int c2), .val (.int c3), .val (.int (Int32.ofNat n)), .val (.ref s), .val (.int (Int32.ofNat tx.length)), .val (.ref e), .val (.int (Int32.ofNat (n + 3)))] [.int (4 : Int32), .int (Int32.ofNat (n + 3)), .ref e] := H135.iconst d_expd_169
      have H137 : Hr x b_expd Z EL1 1 15 hy116 [e] 171 #[.val (.int c0), .val (.int c1), .val (.int c2), .val (.int c3), .val (.int (Int32.ofNat n)), .val (.ref s), .val (.int (Int32.ofNat tx.length)), .val (.ref e), .val (.int (Int32.ofNat (n + 3)))] [.int (Int32.ofNat (n + 3 + 4)), .ref e] := H136.iadd d_expd_170 (hv := (ofNat_add (n + 3) 4))
      have H138 : Hr x b_expd Z EL1 1 15 hy116 [e] 173 #[.val (.int c0), .val (.int c1), .val (.int c2), .val (.int c3), .val (.int (Int32.ofNat n)), .val (.ref s), .val (.int (Int32.ofNat tx.length)), .val (.ref e), .val (.int (Int32.ofNat (n + 3)))] [.ref s, .int (Int32.ofNat (n + 3 + 4)), .ref e] := H137.aload d_expd_171
      have H139 : Hr x b_expd Z EL1 1 15 hy116 [e] 174 #[.val (.int c0), .val (.int c1), .val (.int c2), .val (.int c3), .val (.int (Int32.ofNat n)), .val (.ref s), .val (.int (Int32.ofNat tx.length)), .val (.ref e), .val (.int (Int32.ofNat (n + 3)))] [.int (4 : Int32), .ref s, .int (Int32.ofNat (n + 3 + 4)), .ref e] := H138.iconst d_expd_173
      obtain ⟨_, hc, _, ⟨rfl, rfl, ec⟩, Kc, H140⟩ := H139.callV (argsL := [.int (4 : Int32)]) (rest := [.int (Int32.ofNat (n + 3 + 4)), .ref e]) (Wr := 2) (a := s) (ct_scha hw x.l x.nar x.kn hnar hy116 s u 4 tx Sy116 (by omega) f hfr P cz O hcz) sub0 Sy116.1 (w115 hw) (w116 hw) (w118 hw) (w118 hw) (w117 hw) (w7 hw) (w119 hw) d_expd_174 pd_scha rfl (hf := by first | (simp [b_expd, Bx.R]; done) | (simp [b_expd, Bx.R]; omega)) (hl := by first | (simp [b_expd, Bx.R]; done) | (simp [b_expd, Bx.R]; omega)) (hc := by first | (simp [b_expd, Bx.R]; done) | (simp [b_expd, Bx.R]; omega)) (hs := by first | (simp [b_expd, Bx.R]; done) | (simp [b_expd, Bx.R]; omega))
      rw [ec] at H140
      have H140 : Hr x b_expd Z EL1 1 15 hy116 [e] 177 #[.val (.int c0), .val (.int c1), .val (.int c2), .val (.int c3), .val (.int (Int32.ofNat n)), .val (.ref s), .val (.int (Int32.ofNat tx.length)), .val (.ref e), .val (.int (Int32.ofNat (n + 3)))] [.int (u8 (tx.getD 4 0)), .int (Int32.ofNat (n + 3 + 4)), .ref e] := H140
      obtain ⟨hp141, Wp141, H142⟩ := H140.castore (by simp) Fy116 d_expd_177 (i := n + 3 + 4) rfl (by rw [List.length_map, lny116]; omega) (hw := (nar_c (u8_rng _).1 (u8_rng _).2))
      have H142 : Hr x b_expd Z EL1 1 15 hp141 [e] 178 #[.val (.int c0), .val (.int c1), .val (.int c2), .val (.int c3), .val (.int (Int32.ofNat n)), .val (.ref s), .val (.int (Int32.ofNat tx.length)), .val (.ref e), .val (.int (Int32.ofNat (n + 3)))] [] := H142
      have Fq141 := Fy116.seti Wp141
      have Sq141 := Sy116.other Wp141 hse hue
      exact ⟨_, _, (if_pos q).symm, Fq141, Sq141, by rw [List.length_set]; exact lny116, H142⟩
    · have q2 := q
      have H143 : Hr x b_expd Z EL1 1 15 hy116 [e] 178 #[.val (.int c0), .val (.int c1), .val (.int c2), .val (.int c3), .val (.int (Int32.ofNat n)), .val (.ref s), .val (.int (Int32.ofNat tx.length)), .val (.ref e), .val (.int (Int32.ofNat (n + 3)))] [] := H130.icmpT d_expd_162 (XT.ii_le_t fun z => q ((ilt (n := 4) (by decide) (by omega)).mp z))
      exact ⟨_, _, (if_neg q).symm, Fy116, Sy116, lny116, H143⟩
  have H144 : Hr x b_expd Z EL1 1 15 hy131 [e] 180 #[.val (.int c0), .val (.int c1), .val (.int c2), .val (.int c3), .val (.int (Int32.ofNat n)), .val (.ref s), .val (.int (Int32.ofNat tx.length)), .val (.ref e), .val (.int (Int32.ofNat (n + 3)))] [.int (Int32.ofNat tx.length)] := H132.iload d_expd_178
  have H145 : Hr x b_expd Z EL1 1 15 hy131 [e] 181 #[.val (.int c0), .val (.int c1), .val (.int c2), .val (.int c3), .val (.int (Int32.ofNat n)), .val (.ref s), .val (.int (Int32.ofNat tx.length)), .val (.ref e), .val (.int (Int32.ofNat (n + 3)))] [.int (5 : Int32), .int (Int32.ofNat tx.length)] := H144.iconst d_expd_180
  obtain ⟨hy146, dy146, edy146, Fy146, Sy146, lny146, H147⟩ : ∃ (h' : Heap) (d' : List Int32), d' = (if 5 < tx.length then dy131.set (n + 3 + 5) (u8 (tx.getD 5 0)) else dy131) ∧ Ar Z h' e .char (d'.map Value.int) ∧ Str Z h' s u tx ∧ d'.length = N ∧ Hr x b_expd Z EL1 1 15 h' [e] 197 #[.val (.int c0), .val (.int c1), .val (.int c2), .val (.int c3), .val (.int (Int32.ofNat n)), .val (.ref s), .val (.int (Int32.ofNat tx.length)), .val (.ref e), .val (.int (Int32.ofNat (n + 3)))] [] := by
    by_cases q : 5 < tx.length
    · have q2 := q
      have H148 : Hr x b_expd Z EL1 1 15 hy131 [e] 184 #[.val (.int c0), .val (.int c1), .val (.int c2), .val (.int c3), .val (.int (Int32.ofNat n)), .val (.ref s), .val (.int (Int32.ofNat tx.length)), .val (.ref e), .val (.int (Int32.ofNat (n + 3)))] [] := H145.icmpF d_expd_181 (XT.ii_le_f ((ilt (n := 5) (by decide) (by omega)).mpr q))
      have H149 : Hr x b_expd Z EL1 1 15 hy131 [e] 186 #[.val (.int c0), .val (.int c1), .val (.int c2), .val (.int c3), .val (.int (Int32.ofNat n)), .val (.ref s), .val (.int (Int32.ofNat tx.length)), .val (.ref e), .val (.int (Int32.ofNat (n + 3)))] [.ref e] := H148.aload d_expd_184
      have H150 : Hr x b_expd Z EL1 1 15 hy131 [e] 188 #[.val (.int c0), .val (.int c1), .val (.int c2), .val (.int c3), .val (.int (Int32.ofNat n)), .val (.ref s), .val (.int (Int32.ofNat tx.length)), .val (.ref e), .val (.int (Int32.ofNat (n + 3)))] [.int (Int32.ofNat (n + 3)), .ref e] := H149.iload d_expd_186
      have H151 : Hr x b_expd Z EL1 1 15 hy131 [e] 189 #[.val (.int c0), .val (.int c1), .val (.int c2), .val (.int c3), .val (.int (Int32.ofNat n)), .val (.ref s), .val (.int (Int32.ofNat tx.length)), .val (.ref e), .val (.int (Int32.ofNat (n + 3)))] [.int (5 : Int32), .int (Int32.ofNat (n + 3)), .ref e] := H150.iconst d_expd_188
      have H152 : Hr x b_expd Z EL1 1 15 hy131 [e] 190 #[.val (.int c0), .val (.int c1), .val (.int c2), .val (.int c3), .val (.int (Int32.ofNat n)), .val (.ref s), .val (.int (Int32.ofNat tx.length)), .val (.ref e), .val (.int (Int32.ofNat (n + 3)))] [.int (Int32.ofNat (n + 3 + 5)), .ref e] := H151.iadd d_expd_189 (hv := (ofNat_add (n + 3) 5))
      have H153 : Hr x b_expd Z EL1 1 15 hy131 [e] 192 #[.val (.int c0), .val (.int c1), .val (.int c2), .val (.int c3), .val (.int (Int32.ofNat n)), .val (.ref s), .val (.int (Int32.ofNat tx.length)), .val (.ref e), .val (.int (Int32.ofNat (n + 3)))] [.ref s, .int (Int32.ofNat (n + 3 + 5)), .ref e] := H152.aload d_expd_190
      have H154 : Hr x b_expd Z EL1 1 15 hy131 [e] 193 #[.val (.int c0), .val (.int c1), .val (.int c2), .val (.int c3), .val (.int (Int32.ofNat n)), .val (.ref s), .val (.int (Int32.ofNat tx.length)), .val (.ref e), .val (.int (Int32.ofNat (n + 3)))] [.int (5 : Int32), .ref s, .int (Int32.ofNat (n + 3 + 5)), .ref e] := H153.iconst d_expd_192
      obtain ⟨_, hc, _, ⟨rfl, rfl, ec⟩, Kc, H155⟩ := H154.callV (argsL := [.int (5 : Int32)]) (rest := [.int (Int32.ofNat (n + 3 + 5)), .ref e]) (Wr := 2) (a := s) (ct_scha hw x.l x.nar x.kn hnar hy131 s u 5 tx Sy131 (by omega) f hfr P cz O hcz) sub0 Sy131.1 (w115 hw) (w116 hw) (w118 hw) (w118 hw) (w117 hw) (w7 hw) (w119 hw) d_expd_193 pd_scha rfl (hf := by first | (simp [b_expd, Bx.R]; done) | (simp [b_expd, Bx.R]; omega)) (hl := by first | (simp [b_expd, Bx.R]; done) | (simp [b_expd, Bx.R]; omega)) (hc := by first | (simp [b_expd, Bx.R]; done) | (simp [b_expd, Bx.R]; omega)) (hs := by first | (simp [b_expd, Bx.R]; done) | (simp [b_expd, Bx.R]; omega))
      rw [ec] at H155
      have H155 : Hr x b_expd Z EL1 1 15 hy131 [e] 196 #[.val (.int c0), .val (.int c1), .val (.int c2), .val (.int c3), .val (.int (Int32.ofNat n)), .val (.ref s), .val (.int (Int32.ofNat tx.length)), .val (.ref e), .val (.int (Int32.ofNat (n + 3)))] [.int (u8 (tx.getD 5 0)), .int (Int32.ofNat (n + 3 + 5)), .ref e] := H155
      obtain ⟨hp156, Wp156, H157⟩ := H155.castore (by simp) Fy131 d_expd_196 (i := n + 3 + 5) rfl (by rw [List.length_map, lny131]; omega) (hw := (nar_c (u8_rng _).1 (u8_rng _).2))
      have H157 : Hr x b_expd Z EL1 1 15 hp156 [e] 197 #[.val (.int c0), .val (.int c1), .val (.int c2), .val (.int c3), .val (.int (Int32.ofNat n)), .val (.ref s), .val (.int (Int32.ofNat tx.length)), .val (.ref e), .val (.int (Int32.ofNat (n + 3)))] [] := H157
      have Fq156 := Fy131.seti Wp156
      have Sq156 := Sy131.other Wp156 hse hue
      exact ⟨_, _, (if_pos q).symm, Fq156, Sq156, by rw [List.length_set]; exact lny131, H157⟩
    · have q2 := q
      have H158 : Hr x b_expd Z EL1 1 15 hy131 [e] 197 #[.val (.int c0), .val (.int c1), .val (.int c2), .val (.int c3), .val (.int (Int32.ofNat n)), .val (.ref s), .val (.int (Int32.ofNat tx.length)), .val (.ref e), .val (.int (Int32.ofNat (n + 3)))] [] := H145.icmpT d_expd_181 (XT.ii_le_t fun z => q ((ilt (n := 5) (by decide) (by omega)).mp z))
      exact ⟨_, _, (if_neg q).symm, Fy131, Sy131, lny131, H158⟩
  have H159 : Hr x b_expd Z EL1 1 15 hy146 [e] 199 #[.val (.int c0), .val (.int c1), .val (.int c2), .val (.int c3), .val (.int (Int32.ofNat n)), .val (.ref s), .val (.int (Int32.ofNat tx.length)), .val (.ref e), .val (.int (Int32.ofNat (n + 3)))] [.int (Int32.ofNat tx.length)] := H147.iload d_expd_197
  have H160 : Hr x b_expd Z EL1 1 15 hy146 [e] 201 #[.val (.int c0), .val (.int c1), .val (.int c2), .val (.int c3), .val (.int (Int32.ofNat n)), .val (.ref s), .val (.int (Int32.ofNat tx.length)), .val (.ref e), .val (.int (Int32.ofNat (n + 3)))] [.int (6 : Int32), .int (Int32.ofNat tx.length)] := H159.bipush d_expd_199
  obtain ⟨hy161, dy161, edy161, Fy161, Sy161, lny161, H162⟩ : ∃ (h' : Heap) (d' : List Int32), d' = (if 6 < tx.length then dy146.set (n + 3 + 6) (u8 (tx.getD 6 0)) else dy146) ∧ Ar Z h' e .char (d'.map Value.int) ∧ Str Z h' s u tx ∧ d'.length = N ∧ Hr x b_expd Z EL1 1 15 h' [e] 219 #[.val (.int c0), .val (.int c1), .val (.int c2), .val (.int c3), .val (.int (Int32.ofNat n)), .val (.ref s), .val (.int (Int32.ofNat tx.length)), .val (.ref e), .val (.int (Int32.ofNat (n + 3)))] [] := by
    by_cases q : 6 < tx.length
    · have q2 := q
      have H163 : Hr x b_expd Z EL1 1 15 hy146 [e] 204 #[.val (.int c0), .val (.int c1), .val (.int c2), .val (.int c3), .val (.int (Int32.ofNat n)), .val (.ref s), .val (.int (Int32.ofNat tx.length)), .val (.ref e), .val (.int (Int32.ofNat (n + 3)))] [] := H160.icmpF d_expd_201 (XT.ii_le_f ((ilt (n := 6) (by decide) (by omega)).mpr q))
      have H164 : Hr x b_expd Z EL1 1 15 hy146 [e] 206 #[.val (.int c0), .val (.int c1), .val (.int c2), .val (.int c3), .val (.int (Int32.ofNat n)), .val (.ref s), .val (.int (Int32.ofNat tx.length)), .val (.ref e), .val (.int (Int32.ofNat (n + 3)))] [.ref e] := H163.aload d_expd_204
      have H165 : Hr x b_expd Z EL1 1 15 hy146 [e] 208 #[.val (.int c0), .val (.int c1), .val (.int c2), .val (.int c3), .val (.int (Int32.ofNat n)), .val (.ref s), .val (.int (Int32.ofNat tx.length)), .val (.ref e), .val (.int (Int32.ofNat (n + 3)))] [.int (Int32.ofNat (n + 3)), .ref e] := H164.iload d_expd_206
      have H166 : Hr x b_expd Z EL1 1 15 hy146 [e] 210 #[.val (.int c0), .val (.int c1), .val (.int c2), .val (.int c3), .val (.int (Int32.ofNat n)), .val (.ref s), .val (.int (Int32.ofNat tx.length)), .val (.ref e), .val (.int (Int32.ofNat (n + 3)))] [.int (6 : Int32), .int (Int32.ofNat (n + 3)), .ref e] := H165.bipush d_expd_208
      have H167 : Hr x b_expd Z EL1 1 15 hy146 [e] 211 #[.val (.int c0), .val (.int c1), .val (.int c2), .val (.int c3), .val (.int (Int32.ofNat n)), .val (.ref s), .val (.int (Int32.ofNat tx.length)), .val (.ref e), .val (.int (Int32.ofNat (n + 3)))] [.int (Int32.ofNat (n + 3 + 6)), .ref e] := H166.iadd d_expd_210 (hv := (ofNat_add (n + 3) 6))
      have H168 : Hr x b_expd Z EL1 1 15 hy146 [e] 213 #[.val (.int c0), .val (.int c1), .val (.int c2), .val (.int c3), .val (.int (Int32.ofNat n)), .val (.ref s), .val (.int (Int32.ofNat tx.length)), .val (.ref e), .val (.int (Int32.ofNat (n + 3)))] [.ref s, .int (Int32.ofNat (n + 3 + 6)), .ref e] := H167.aload d_expd_211
      have H169 : Hr x b_expd Z EL1 1 15 hy146 [e] 215 #[.val (.int c0), .val (.int c1), .val (.int c2), .val (.int c3), .val (.int (Int32.ofNat n)), .val (.ref s), .val (.int (Int32.ofNat tx.length)), .val (.ref e), .val (.int (Int32.ofNat (n + 3)))] [.int (6 : Int32), .ref s, .int (Int32.ofNat (n + 3 + 6)), .ref e] := H168.bipush d_expd_213
      obtain ⟨_, hc, _, ⟨rfl, rfl, ec⟩, Kc, H170⟩ := H169.callV (argsL := [.int (6 : Int32)]) (rest := [.int (Int32.ofNat (n + 3 + 6)), .ref e]) (Wr := 2) (a := s) (ct_scha hw x.l x.nar x.kn hnar hy146 s u 6 tx Sy146 (by omega) f hfr P cz O hcz) sub0 Sy146.1 (w115 hw) (w116 hw) (w118 hw) (w118 hw) (w117 hw) (w7 hw) (w119 hw) d_expd_215 pd_scha rfl (hf := by first | (simp [b_expd, Bx.R]; done) | (simp [b_expd, Bx.R]; omega)) (hl := by first | (simp [b_expd, Bx.R]; done) | (simp [b_expd, Bx.R]; omega)) (hc := by first | (simp [b_expd, Bx.R]; done) | (simp [b_expd, Bx.R]; omega)) (hs := by first | (simp [b_expd, Bx.R]; done) | (simp [b_expd, Bx.R]; omega))
      rw [ec] at H170
      have H170 : Hr x b_expd Z EL1 1 15 hy146 [e] 218 #[.val (.int c0), .val (.int c1), .val (.int c2), .val (.int c3), .val (.int (Int32.ofNat n)), .val (.ref s), .val (.int (Int32.ofNat tx.length)), .val (.ref e), .val (.int (Int32.ofNat (n + 3)))] [.int (u8 (tx.getD 6 0)), .int (Int32.ofNat (n + 3 + 6)), .ref e] := H170
      obtain ⟨hp171, Wp171, H172⟩ := H170.castore (by simp) Fy146 d_expd_218 (i := n + 3 + 6) rfl (by rw [List.length_map, lny146]; omega) (hw := (nar_c (u8_rng _).1 (u8_rng _).2))
      have H172 : Hr x b_expd Z EL1 1 15 hp171 [e] 219 #[.val (.int c0), .val (.int c1), .val (.int c2), .val (.int c3), .val (.int (Int32.ofNat n)), .val (.ref s), .val (.int (Int32.ofNat tx.length)), .val (.ref e), .val (.int (Int32.ofNat (n + 3)))] [] := H172
      have Fq171 := Fy146.seti Wp171
      have Sq171 := Sy146.other Wp171 hse hue
      exact ⟨_, _, (if_pos q).symm, Fq171, Sq171, by rw [List.length_set]; exact lny146, H172⟩
    · have q2 := q
      have H173 : Hr x b_expd Z EL1 1 15 hy146 [e] 219 #[.val (.int c0), .val (.int c1), .val (.int c2), .val (.int c3), .val (.int (Int32.ofNat n)), .val (.ref s), .val (.int (Int32.ofNat tx.length)), .val (.ref e), .val (.int (Int32.ofNat (n + 3)))] [] := H160.icmpT d_expd_201 (XT.ii_le_t fun z => q ((ilt (n := 6) (by decide) (by omega)).mp z))
      exact ⟨_, _, (if_neg q).symm, Fy146, Sy146, lny146, H173⟩
  have H174 : Hr x b_expd Z EL1 1 15 hy161 [e] 221 #[.val (.int c0), .val (.int c1), .val (.int c2), .val (.int c3), .val (.int (Int32.ofNat n)), .val (.ref s), .val (.int (Int32.ofNat tx.length)), .val (.ref e), .val (.int (Int32.ofNat (n + 3)))] [.int (Int32.ofNat tx.length)] := H162.iload d_expd_219
  have H175 : Hr x b_expd Z EL1 1 15 hy161 [e] 223 #[.val (.int c0), .val (.int c1), .val (.int c2), .val (.int c3), .val (.int (Int32.ofNat n)), .val (.ref s), .val (.int (Int32.ofNat tx.length)), .val (.ref e), .val (.int (Int32.ofNat (n + 3)))] [.int (7 : Int32), .int (Int32.ofNat tx.length)] := H174.bipush d_expd_221
  obtain ⟨hy176, dy176, edy176, Fy176, Sy176, lny176, H177⟩ : ∃ (h' : Heap) (d' : List Int32), d' = (if 7 < tx.length then dy161.set (n + 3 + 7) (u8 (tx.getD 7 0)) else dy161) ∧ Ar Z h' e .char (d'.map Value.int) ∧ Str Z h' s u tx ∧ d'.length = N ∧ Hr x b_expd Z EL1 1 15 h' [e] 241 #[.val (.int c0), .val (.int c1), .val (.int c2), .val (.int c3), .val (.int (Int32.ofNat n)), .val (.ref s), .val (.int (Int32.ofNat tx.length)), .val (.ref e), .val (.int (Int32.ofNat (n + 3)))] [] := by
    by_cases q : 7 < tx.length
    · have q2 := q
      have H178 : Hr x b_expd Z EL1 1 15 hy161 [e] 226 #[.val (.int c0), .val (.int c1), .val (.int c2), .val (.int c3), .val (.int (Int32.ofNat n)), .val (.ref s), .val (.int (Int32.ofNat tx.length)), .val (.ref e), .val (.int (Int32.ofNat (n + 3)))] [] := H175.icmpF d_expd_223 (XT.ii_le_f ((ilt (n := 7) (by decide) (by omega)).mpr q))
      have H179 : Hr x b_expd Z EL1 1 15 hy161 [e] 228 #[.val (.int c0), .val (.int c1), .val (.int c2), .val (.int c3), .val (.int (Int32.ofNat n)), .val (.ref s), .val (.int (Int32.ofNat tx.length)), .val (.ref e), .val (.int (Int32.ofNat (n + 3)))] [.ref e] := H178.aload d_expd_226
      have H180 : Hr x b_expd Z EL1 1 15 hy161 [e] 230 #[.val (.int c0), .val (.int c1), .val (.int c2), .val (.int c3), .val (.int (Int32.ofNat n)), .val (.ref s), .val (.int (Int32.ofNat tx.length)), .val (.ref e), .val (.int (Int32.ofNat (n + 3)))] [.int (Int32.ofNat (n + 3)), .ref e] := H179.iload d_expd_228
      have H181 : Hr x b_expd Z EL1 1 15 hy161 [e] 232 #[.val (.int c0), .val (.int c1), .val (.int c2), .val (.int c3), .val (.int (Int32.ofNat n)), .val (.ref s), .val (.int (Int32.ofNat tx.length)), .val (.ref e), .val (.int (Int32.ofNat (n + 3)))] [.int (7 : Int32), .int (Int32.ofNat (n + 3)), .ref e] := H180.bipush d_expd_230
      have H182 : Hr x b_expd Z EL1 1 15 hy161 [e] 233 #[.val (.int c0), .val (.int c1), .val (.int c2), .val (.int c3), .val (.int (Int32.ofNat n)), .val (.ref s), .val (.int (Int32.ofNat tx.length)), .val (.ref e), .val (.int (Int32.ofNat (n + 3)))] [.int (Int32.ofNat (n + 3 + 7)), .ref e] := H181.iadd d_expd_232 (hv := (ofNat_add (n + 3) 7))
      have H183 : Hr x b_expd Z EL1 1 15 hy161 [e] 235 #[.val (.int c0), .val (.int c1), .val (.int c2), .val (.int c3), .val (.int (Int32.ofNat n)), .val (.ref s), .val (.int (Int32.ofNat tx.length)), .val (.ref e), .val (.int (Int32.ofNat (n + 3)))] [.ref s, .int (Int32.ofNat (n + 3 + 7)), .ref e] := H182.aload d_expd_233
      have H184 : Hr x b_expd Z EL1 1 15 hy161 [e] 237 #[.val (.int c0), .val (.int c1), .val (.int c2), .val (.int c3), .val (.int (Int32.ofNat n)), .val (.ref s), .val (.int (Int32.ofNat tx.length)), .val (.ref e), .val (.int (Int32.ofNat (n + 3)))] [.int (7 : Int32), .ref s, .int (Int32.ofNat (n + 3 + 7)), .ref e] := H183.bipush d_expd_235
      obtain ⟨_, hc, _, ⟨rfl, rfl, ec⟩, Kc, H185⟩ := H184.callV (argsL := [.int (7 : Int32)]) (rest := [.int (Int32.ofNat (n + 3 + 7)), .ref e]) (Wr := 2) (a := s) (ct_scha hw x.l x.nar x.kn hnar hy161 s u 7 tx Sy161 (by omega) f hfr P cz O hcz) sub0 Sy161.1 (w115 hw) (w116 hw) (w118 hw) (w118 hw) (w117 hw) (w7 hw) (w119 hw) d_expd_237 pd_scha rfl (hf := by first | (simp [b_expd, Bx.R]; done) | (simp [b_expd, Bx.R]; omega)) (hl := by first | (simp [b_expd, Bx.R]; done) | (simp [b_expd, Bx.R]; omega)) (hc := by first | (simp [b_expd, Bx.R]; done) | (simp [b_expd, Bx.R]; omega)) (hs := by first | (simp [b_expd, Bx.R]; done) | (simp [b_expd, Bx.R]; omega))
      rw [ec] at H185
      have H185 : Hr x b_expd Z EL1 1 15 hy161 [e] 240 #[.val (.int c0), .val (.int c1), .val (.int c2), .val (.int c3), .val (.int (Int32.ofNat n)), .val (.ref s), .val (.int (Int32.ofNat tx.length)), .val (.ref e), .val (.int (Int32.ofNat (n + 3)))] [.int (u8 (tx.getD 7 0)), .int (Int32.ofNat (n + 3 + 7)), .ref e] := H185
      obtain ⟨hp186, Wp186, H187⟩ := H185.castore (by simp) Fy161 d_expd_240 (i := n + 3 + 7) rfl (by rw [List.length_map, lny161]; omega) (hw := (nar_c (u8_rng _).1 (u8_rng _).2))
      have H187 : Hr x b_expd Z EL1 1 15 hp186 [e] 241 #[.val (.int c0), .val (.int c1), .val (.int c2), .val (.int c3), .val (.int (Int32.ofNat n)), .val (.ref s), .val (.int (Int32.ofNat tx.length)), .val (.ref e), .val (.int (Int32.ofNat (n + 3)))] [] := H187
      have Fq186 := Fy161.seti Wp186
      have Sq186 := Sy161.other Wp186 hse hue
      exact ⟨_, _, (if_pos q).symm, Fq186, Sq186, by rw [List.length_set]; exact lny161, H187⟩
    · have q2 := q
      have H188 : Hr x b_expd Z EL1 1 15 hy161 [e] 241 #[.val (.int c0), .val (.int c1), .val (.int c2), .val (.int c3), .val (.int (Int32.ofNat n)), .val (.ref s), .val (.int (Int32.ofNat tx.length)), .val (.ref e), .val (.int (Int32.ofNat (n + 3)))] [] := H175.icmpT d_expd_223 (XT.ii_le_t fun z => q ((ilt (n := 7) (by decide) (by omega)).mp z))
      exact ⟨_, _, (if_neg q).symm, Fy161, Sy161, lny161, H188⟩
  have hfin : dy176 = expL n [c0, c1, c2, c3] tx := exp_fin hn htx hN ed1 edx14 edx19 edy23 edy34 edy45 edx59 edx66 edy73 edy86 edy101 edy116 edy131 edy146 edy161 edy176
  rw [hfin] at Fy176
  have hel : (expL n [c0, c1, c2, c3] tx).length = N := by rw [← hfin]; exact lny176
  clear ln1 lnx14 lnx19 lny23 lny34 lny45 lnx59 lnx66 lny73 lny86 lny101 lny116 lny131 lny146 lny161 lny176
  have hrng : ∀ c ∈ expL n [c0, c1, c2, c3] tx, ¬ c < 0 ∧ ¬ 255 < c := exp_rng r0 r1 r2 r3
  obtain ⟨hq, Eq_, ⟨Xq, Dq, Uq⟩, H189⟩ := H177.new (w5 hw) (w6 hw) (w7 hw) d_expd_241 (by first | (simp [b_expd, Bx.R]; done) | (simp [b_expd, Bx.R]; omega)) (by first | (simp [b_expd, Bx.R]; done) | (simp [b_expd, Bx.R]; omega))
  obtain ⟨q, g_q⟩ : ∃ z, z = hy176.size := ⟨_, rfl⟩
  rw [← g_q] at Xq Dq Uq H189
  have H189 : Hr x b_expd Z EL1 2 19 hq [q, e] 244 #[.val (.int c0), .val (.int c1), .val (.int c2), .val (.int c3), .val (.int (Int32.ofNat n)), .val (.ref s), .val (.int (Int32.ofNat tx.length)), .val (.ref e), .val (.int (Int32.ofNat (n + 3)))] [.ref q] := H189
  have H190 : Hr x b_expd Z EL1 2 19 hq [q, e] 245 #[.val (.int c0), .val (.int c1), .val (.int c2), .val (.int c3), .val (.int (Int32.ofNat n)), .val (.ref s), .val (.int (Int32.ofNat tx.length)), .val (.ref e), .val (.int (Int32.ofNat (n + 3)))] [.ref q, .ref q] := H189.dup d_expd_244
  have H191 : Hr x b_expd Z EL1 2 19 hq [q, e] 247 #[.val (.int c0), .val (.int c1), .val (.int c2), .val (.int c3), .val (.int (Int32.ofNat n)), .val (.ref s), .val (.int (Int32.ofNat tx.length)), .val (.ref e), .val (.int (Int32.ofNat (n + 3)))] [.ref e, .ref q, .ref q] := H190.aload d_expd_245
  have Fc : Fld Z hq q "java/lang/String" "coder" "B" (.int 0) := Dq (Or.inr (w31 hw)) (ty := .byte) (by decide)
  have Fv : Fld Z hq q "java/lang/String" "value" "[B" .null := Dq (Or.inr (w33 hw)) (ty := .array .byte) (by decide)
  obtain ⟨_, hE, _, ⟨rfl, rfl, t, Fs⟩, KE, H192⟩ := H191.callI (argsL := [.ref e]) (rest := [.ref q]) (Wr := 1) (a := q) (ct_sini1 hw x.l x.nar x.kn hnar hq q e (expL n [c0, c1, c2, c3] tx) Xq Fc Fv (Fy176.ext Eq_) (by omega) hrng cz O hcz (by omega)) (sub1 (by simp)) (w8 hw) (w9 hw) (w7 hw) (w10 hw) d_expd_247 pd_sini1 rfl (hf := by first | (simp [b_expd, Bx.R]; done) | (simp [b_expd, Bx.R]; omega)) (hl := by first | (simp [b_expd, Bx.R]; done) | (simp [b_expd, Bx.R]; omega)) (hc := by first | (simp [b_expd, Bx.R]; done) | (simp [b_expd, Bx.R]; omega)) (hs := by first | (simp [b_expd, Bx.R]; done) | (simp [b_expd, Bx.R]; omega))
  have H192 : Hr x b_expd Z EL1 6 (19 + (8 + (expL n [c0, c1, c2, c3] tx).length)) hE [q, e] 250 #[.val (.int c0), .val (.int c1), .val (.int c2), .val (.int c3), .val (.int (Int32.ofNat n)), .val (.ref s), .val (.int (Int32.ofNat tx.length)), .val (.ref e), .val (.int (Int32.ofNat (n + 3)))] [.ref q] := H192
  exact H192.finA d_expd_250 ⟨q, t, rfl, rfl, Fs⟩ sub0 (hK := by first | (simp [b_expd, Bx.R]; done) | (simp [b_expd, Bx.R]; omega)) (hS := by first | (simp [b_expd, Bx.R]; done) | (simp [b_expd, Bx.R]; omega))
theorem lenOfN (x : Int32) : ∃ n : Nat, (n = 1 ∨ n = 2 ∨ n = 3 ∨ n = 4) ∧ (x &&& 3) + 1 = Int32.ofNat n := by
  have h := c_mask x 3 2 (by omega) (by decide)
  refine ⟨(x &&& 3).toInt.toNat + 1, by omega, Int32.toInt_inj.mp ?_⟩
  have h2 := c_iadd (x &&& 3) 1
  have e1 : (1 : Int32).toInt = 1 := by decide
  have h3 := rng32 ((x &&& 3) + 1)
  rw [toInt_of rfl (by omega)]
  omega
def b_at : Bx := (({ frames := 11, cells := 80, slots := 9792, locals := 224 } : Room), (⟨"com/example/ortigia/ortigia/LockKeysOfPinLaw", "law", "(IIIII)Z"⟩ : MethodName), code, 13, ret)
theorem ef_at (p0 : Int32) (p1 : Int32) (p2 : Int32) (p3 : Int32) (p4 : Int32) (mI : MethodId) : entryFrame mI #[.int p0, .int p1, .int p2, .int p3, .int p4] 13 = mkF mI 0 #[.val (.int p0), .val (.int p1), .val (.int p2), .val (.int p3), .val (.int p4), .unset, .unset, .unset, .unset, .unset, .unset, .unset, .unset] [] := by first | (simp [entryFrame, mkF, argsToLocals, Value.category]; done) | rfl
theorem pd_at : parseMethodDescriptor "(IIIII)Z" = some ⟨[.int, .int, .int, .int, .int], some .boolean⟩ := by decide +kernel
set_option maxRecDepth 65536 in
set_option maxHeartbeats 4000000 in
theorem ct_law {a0 : Array Value} {Z : State} (hw : ∀ d ∈ tables_1, d.before a0 Z = true) (l : Launch) (nar kn : Bool) (hnr : nar = false) (h0 : Heap) (p0 : Int32) (p1 : Int32) (p2 : Int32) (p3 : Int32) (p4 : Int32) (f : Value) (hfr : f.isRef = true) (P : Sta Z Z.heap "jdk/internal/util/Preconditions" "SIOOBE_FORMATTER" "Ljava/util/function/BiFunction;" f) (cz : Int32) (O : Sta Z Z.heap "java/lang/String" "COMPACT_STRINGS" "Z" (.int cz)) (hcz : ¬ cz = 0) :
    Ct l Z EL1 (⟨"com/example/ortigia/ortigia/LockKeysOfPinLaw", "law", "(IIIII)Z"⟩ : MethodName) code 13 ret ({ frames := 11, cells := 80, slots := 9792, locals := 224 } : Room) #[.int p0, .int p1, .int p2, .int p3, .int p4] h0 [] nar kn (fun v h sn => v = some (.int 1) ∧ sn = []) := by
  refine Ct.intro (plainFor_of_name pn_com_example_ortigia_ortigia_LockKeysOfPinLaw) (ew hw) (ef_at p0 p1 p2 p3 p4) ?_
  intro x hl hn0 hkn hsf hh H0
  have hnar : x.nar = false := hn0.trans hnr
  have H0 : Hr x b_at Z EL1 0 0 h0 [] 0 #[.val (.int p0), .val (.int p1), .val (.int p2), .val (.int p3), .val (.int p4), .unset, .unset, .unset, .unset, .unset, .unset, .unset, .unset] [] := H0
  obtain ⟨n, hn, hnI⟩ := lenOfN p0
  have hn4 : 1 ≤ n ∧ n ≤ 4 := by omega
  obtain ⟨c0, hc0⟩ : ∃ z, (p1 &&& (255 : Int32)).toUInt32.toUInt16.toUInt32.toInt32 = z := ⟨_, rfl⟩
  have r0 : ¬ c0 < 0 ∧ ¬ 255 < c0 := hc0 ▸ chr_rng p1
  obtain ⟨c1, hc1⟩ : ∃ z, (p2 &&& (255 : Int32)).toUInt32.toUInt16.toUInt32.toInt32 = z := ⟨_, rfl⟩
  have r1 : ¬ c1 < 0 ∧ ¬ 255 < c1 := hc1 ▸ chr_rng p2
  obtain ⟨c2, hc2⟩ : ∃ z, (p3 &&& (255 : Int32)).toUInt32.toUInt16.toUInt32.toInt32 = z := ⟨_, rfl⟩
  have r2 : ¬ c2 < 0 ∧ ¬ 255 < c2 := hc2 ▸ chr_rng p3
  obtain ⟨c3, hc3⟩ : ∃ z, (p4 &&& (255 : Int32)).toUInt32.toUInt16.toUInt32.toInt32 = z := ⟨_, rfl⟩
  have r3 : ¬ c3 < 0 ∧ ¬ 255 < c3 := hc3 ▸ chr_rng p4
  have H1 : Hr x b_at Z EL1 0 0 h0 [] 1 #[.val (.int p0), .val (.int p1), .val (.int p2), .val (.int p3), .val (.int p4), .unset, .unset, .unset, .unset, .unset, .unset, .unset, .unset] [.int p0] := H0.iloadN at_0
  have H2 : Hr x b_at Z EL1 0 0 h0 [] 2 #[.val (.int p0), .val (.int p1), .val (.int p2), .val (.int p3), .val (.int p4), .unset, .unset, .unset, .unset, .unset, .unset, .unset, .unset] [.int (3 : Int32), .int p0] := H1.iconst at_1
  have H3 : Hr x b_at Z EL1 0 0 h0 [] 3 #[.val (.int p0), .val (.int p1), .val (.int p2), .val (.int p3), .val (.int p4), .unset, .unset, .unset, .unset, .unset, .unset, .unset, .unset] [.int (p0 &&& (3 : Int32))] := H2.iand at_2
  have H4 : Hr x b_at Z EL1 0 0 h0 [] 4 #[.val (.int p0), .val (.int p1), .val (.int p2), .val (.int p3), .val (.int p4), .unset, .unset, .unset, .unset, .unset, .unset, .unset, .unset] [.int (1 : Int32), .int (p0 &&& (3 : Int32))] := H3.iconst at_3
  have H5 : Hr x b_at Z EL1 0 0 h0 [] 5 #[.val (.int p0), .val (.int p1), .val (.int p2), .val (.int p3), .val (.int p4), .unset, .unset, .unset, .unset, .unset, .unset, .unset, .unset] [.int (Int32.ofNat n)] := H4.iadd at_4 (hv := hnI)
  have H6 : Hr x b_at Z EL1 0 0 h0 [] 7 #[.val (.int p0), .val (.int p1), .val (.int p2), .val (.int p3), .val (.int p4), .val (.int (Int32.ofNat n)), .unset, .unset, .unset, .unset, .unset, .unset, .unset] [] := H5.istore at_5
  have H7 : Hr x b_at Z EL1 0 0 h0 [] 8 #[.val (.int p0), .val (.int p1), .val (.int p2), .val (.int p3), .val (.int p4), .val (.int (Int32.ofNat n)), .unset, .unset, .unset, .unset, .unset, .unset, .unset] [.int p1] := H6.iloadN at_7
  have H8 : Hr x b_at Z EL1 0 0 h0 [] 11 #[.val (.int p0), .val (.int p1), .val (.int p2), .val (.int p3), .val (.int p4), .val (.int (Int32.ofNat n)), .unset, .unset, .unset, .unset, .unset, .unset, .unset] [.int (255 : Int32), .int p1] := H7.sipush at_8
  have H9 : Hr x b_at Z EL1 0 0 h0 [] 12 #[.val (.int p0), .val (.int p1), .val (.int p2), .val (.int p3), .val (.int p4), .val (.int (Int32.ofNat n)), .unset, .unset, .unset, .unset, .unset, .unset, .unset] [.int (p1 &&& (255 : Int32))] := H8.iand at_11
  have H10 : Hr x b_at Z EL1 0 0 h0 [] 13 #[.val (.int p0), .val (.int p1), .val (.int p2), .val (.int p3), .val (.int p4), .val (.int (Int32.ofNat n)), .unset, .unset, .unset, .unset, .unset, .unset, .unset] [.int c0] := H9.i2c at_12 (hv := hc0)
  have H11 : Hr x b_at Z EL1 0 0 h0 [] 15 #[.val (.int p0), .val (.int p1), .val (.int p2), .val (.int p3), .val (.int p4), .val (.int (Int32.ofNat n)), .val (.int c0), .unset, .unset, .unset, .unset, .unset, .unset] [] := H10.istore at_13
  have H12 : Hr x b_at Z EL1 0 0 h0 [] 16 #[.val (.int p0), .val (.int p1), .val (.int p2), .val (.int p3), .val (.int p4), .val (.int (Int32.ofNat n)), .val (.int c0), .unset, .unset, .unset, .unset, .unset, .unset] [.int p2] := H11.iloadN at_15
  have H13 : Hr x b_at Z EL1 0 0 h0 [] 19 #[.val (.int p0), .val (.int p1), .val (.int p2), .val (.int p3), .val (.int p4), .val (.int (Int32.ofNat n)), .val (.int c0), .unset, .unset, .unset, .unset, .unset, .unset] [.int (255 : Int32), .int p2] := H12.sipush at_16
  have H14 : Hr x b_at Z EL1 0 0 h0 [] 20 #[.val (.int p0), .val (.int p1), .val (.int p2), .val (.int p3), .val (.int p4), .val (.int (Int32.ofNat n)), .val (.int c0), .unset, .unset, .unset, .unset, .unset, .unset] [.int (p2 &&& (255 : Int32))] := H13.iand at_19
  have H15 : Hr x b_at Z EL1 0 0 h0 [] 21 #[.val (.int p0), .val (.int p1), .val (.int p2), .val (.int p3), .val (.int p4), .val (.int (Int32.ofNat n)), .val (.int c0), .unset, .unset, .unset, .unset, .unset, .unset] [.int c1] := H14.i2c at_20 (hv := hc1)
  have H16 : Hr x b_at Z EL1 0 0 h0 [] 23 #[.val (.int p0), .val (.int p1), .val (.int p2), .val (.int p3), .val (.int p4), .val (.int (Int32.ofNat n)), .val (.int c0), .val (.int c1), .unset, .unset, .unset, .unset, .unset] [] := H15.istore at_21
  have H17 : Hr x b_at Z EL1 0 0 h0 [] 24 #[.val (.int p0), .val (.int p1), .val (.int p2), .val (.int p3), .val (.int p4), .val (.int (Int32.ofNat n)), .val (.int c0), .val (.int c1), .unset, .unset, .unset, .unset, .unset] [.int p3] := H16.iloadN at_23
  have H18 : Hr x b_at Z EL1 0 0 h0 [] 27 #[.val (.int p0), .val (.int p1), .val (.int p2), .val (.int p3), .val (.int p4), .val (.int (Int32.ofNat n)), .val (.int c0), .val (.int c1), .unset, .unset, .unset, .unset, .unset] [.int (255 : Int32), .int p3] := H17.sipush at_24
  have H19 : Hr x b_at Z EL1 0 0 h0 [] 28 #[.val (.int p0), .val (.int p1), .val (.int p2), .val (.int p3), .val (.int p4), .val (.int (Int32.ofNat n)), .val (.int c0), .val (.int c1), .unset, .unset, .unset, .unset, .unset] [.int (p3 &&& (255 : Int32))] := H18.iand at_27
  have H20 : Hr x b_at Z EL1 0 0 h0 [] 29 #[.val (.int p0), .val (.int p1), .val (.int p2), .val (.int p3), .val (.int p4), .val (.int (Int32.ofNat n)), .val (.int c0), .val (.int c1), .unset, .unset, .unset, .unset, .unset] [.int c2] := H19.i2c at_28 (hv := hc2)
  have H21 : Hr x b_at Z EL1 0 0 h0 [] 31 #[.val (.int p0), .val (.int p1), .val (.int p2), .val (.int p3), .val (.int p4), .val (.int (Int32.ofNat n)), .val (.int c0), .val (.int c1), .val (.int c2), .unset, .unset, .unset, .unset] [] := H20.istore at_29
  have H22 : Hr x b_at Z EL1 0 0 h0 [] 33 #[.val (.int p0), .val (.int p1), .val (.int p2), .val (.int p3), .val (.int p4), .val (.int (Int32.ofNat n)), .val (.int c0), .val (.int c1), .val (.int c2), .unset, .unset, .unset, .unset] [.int p4] := H21.iload at_31
  have H23 : Hr x b_at Z EL1 0 0 h0 [] 36 #[.val (.int p0), .val (.int p1), .val (.int p2), .val (.int p3), .val (.int p4), .val (.int (Int32.ofNat n)), .val (.int c0), .val (.int c1), .val (.int c2), .unset, .unset, .unset, .unset] [.int (255 : Int32), .int p4] := H22.sipush at_33
  have H24 : Hr x b_at Z EL1 0 0 h0 [] 37 #[.val (.int p0), .val (.int p1), .val (.int p2), .val (.int p3), .val (.int p4), .val (.int (Int32.ofNat n)), .val (.int c0), .val (.int c1), .val (.int c2), .unset, .unset, .unset, .unset] [.int (p4 &&& (255 : Int32))] := H23.iand at_36
  have H25 : Hr x b_at Z EL1 0 0 h0 [] 38 #[.val (.int p0), .val (.int p1), .val (.int p2), .val (.int p3), .val (.int p4), .val (.int (Int32.ofNat n)), .val (.int c0), .val (.int c1), .val (.int c2), .unset, .unset, .unset, .unset] [.int c3] := H24.i2c at_37 (hv := hc3)
  have H26 : Hr x b_at Z EL1 0 0 h0 [] 40 #[.val (.int p0), .val (.int p1), .val (.int p2), .val (.int p3), .val (.int p4), .val (.int (Int32.ofNat n)), .val (.int c0), .val (.int c1), .val (.int c2), .val (.int c3), .unset, .unset, .unset] [] := H25.istore at_38
  have H27 : Hr x b_at Z EL1 0 0 h0 [] 42 #[.val (.int p0), .val (.int p1), .val (.int p2), .val (.int p3), .val (.int p4), .val (.int (Int32.ofNat n)), .val (.int c0), .val (.int c1), .val (.int c2), .val (.int c3), .unset, .unset, .unset] [.int c0] := H26.iload at_40
  have rest : (∀ c ∈ [c0, c1, c2, c3].take n, ¬ c = 123 ∧ ¬ c = 125) → Hr x b_at Z EL1 0 0 h0 [] 92 #[.val (.int p0), .val (.int p1), .val (.int p2), .val (.int p3), .val (.int p4), .val (.int (Int32.ofNat n)), .val (.int c0), .val (.int c1), .val (.int c2), .val (.int c3), .unset, .unset, .unset] [] → Ends x b_at Z EL1 (fun v h sn => v = some (.int 1) ∧ sn = []) := by
    intro hno H
    have H1001 : Hr x b_at Z EL1 0 0 h0 [] 94 #[.val (.int p0), .val (.int p1), .val (.int p2), .val (.int p3), .val (.int p4), .val (.int (Int32.ofNat n)), .val (.int c0), .val (.int c1), .val (.int c2), .val (.int c3), .unset, .unset, .unset] [.int (Int32.ofNat n)] := H.iload at_92
    have hclamp : (Int32.ofNat n).toNatClampNeg = n := clamp_of rfl (by omega)
    obtain ⟨h1, E1, F1, H1002⟩ := H1001.newarray (aty := .char) (cap := 4) (w4 hw) at_94 (nn32 (by omega)) (Nat.le_trans (Nat.le_of_eq hclamp) (by omega : n ≤ 4)) (by decide) (by first | decide | (simp [b_at, Bx.R]; done) | (simp [b_at, Bx.R]; omega)) (by first | decide | (simp [b_at, Bx.R]; done) | (simp [b_at, Bx.R]; omega))
    obtain ⟨e, g_e⟩ : ∃ z, z = h0.size := ⟨_, rfl⟩
    rw [← g_e] at F1 H1002
    have F1 : Ar Z h1 e .char ((List.replicate n (0 : Int32)).map Value.int) := (by have := F1; rw [hclamp] at this; rw [List.map_replicate]; exact this)
    have H1002 : Hr x b_at Z EL1 1 4 h1 [e] 96 #[.val (.int p0), .val (.int p1), .val (.int p2), .val (.int p3), .val (.int p4), .val (.int (Int32.ofNat n)), .val (.int c0), .val (.int c1), .val (.int c2), .val (.int c3), .unset, .unset, .unset] [.ref e] := H1002
    obtain ⟨d1, ed1⟩ : ∃ z : List Int32, z = List.replicate n 0 := ⟨_, rfl⟩
    rw [← ed1] at F1
    have ln1 : d1.length = n := by rw [ed1]; simp
    have H1003 : Hr x b_at Z EL1 1 4 h1 [e] 98 #[.val (.int p0), .val (.int p1), .val (.int p2), .val (.int p3), .val (.int p4), .val (.int (Int32.ofNat n)), .val (.int c0), .val (.int c1), .val (.int c2), .val (.int c3), .val (.ref e), .unset, .unset] [] := H1002.astore at_96
    have H1004 : Hr x b_at Z EL1 1 4 h1 [e] 100 #[.val (.int p0), .val (.int p1), .val (.int p2), .val (.int p3), .val (.int p4), .val (.int (Int32.ofNat n)), .val (.int c0), .val (.int c1), .val (.int c2), .val (.int c3), .val (.ref e), .unset, .unset] [.ref e] := H1003.aload at_98
    have H1005 : Hr x b_at Z EL1 1 4 h1 [e] 101 #[.val (.int p0), .val (.int p1), .val (.int p2), .val (.int p3), .val (.int p4), .val (.int (Int32.ofNat n)), .val (.int c0), .val (.int c1), .val (.int c2), .val (.int c3), .val (.ref e), .unset, .unset] [.int (0 : Int32), .ref e] := H1004.iconst at_100
    have H1006 : Hr x b_at Z EL1 1 4 h1 [e] 103 #[.val (.int p0), .val (.int p1), .val (.int p2), .val (.int p3), .val (.int p4), .val (.int (Int32.ofNat n)), .val (.int c0), .val (.int c1), .val (.int c2), .val (.int c3), .val (.ref e), .unset, .unset] [.int c0, .int (0 : Int32), .ref e] := H1005.iload at_101
    obtain ⟨hp1007, Wp1007, H1008⟩ := H1006.castore (by simp) F1 at_103 (i := 0) rfl (by rw [List.length_map, ln1]; omega) (hw := (nar_c r0.1 r0.2))
    have H1008 : Hr x b_at Z EL1 1 4 hp1007 [e] 104 #[.val (.int p0), .val (.int p1), .val (.int p2), .val (.int p3), .val (.int p4), .val (.int (Int32.ofNat n)), .val (.int c0), .val (.int c1), .val (.int c2), .val (.int c3), .val (.ref e), .unset, .unset] [] := H1008
    obtain ⟨d2, ed2⟩ : ∃ z : List Int32, z = d1.set 0 c0 := ⟨_, rfl⟩
    have F2 := F1.seti Wp1007
    rw [← ed2] at F2
    have ln2 : d2.length = n := by rw [ed2, List.length_set]; exact ln1
    have H1009 : Hr x b_at Z EL1 1 4 hp1007 [e] 106 #[.val (.int p0), .val (.int p1), .val (.int p2), .val (.int p3), .val (.int p4), .val (.int (Int32.ofNat n)), .val (.int c0), .val (.int c1), .val (.int c2), .val (.int c3), .val (.ref e), .unset, .unset] [.int (Int32.ofNat n)] := H1008.iload at_104
    have H1010 : Hr x b_at Z EL1 1 4 hp1007 [e] 107 #[.val (.int p0), .val (.int p1), .val (.int p2), .val (.int p3), .val (.int p4), .val (.int (Int32.ofNat n)), .val (.int c0), .val (.int c1), .val (.int c2), .val (.int c3), .val (.ref e), .unset, .unset] [.int (2 : Int32), .int (Int32.ofNat n)] := H1009.iconst at_106
    obtain ⟨hy1011, dy1011, edy1011, Fy1011, lny1011, H1012⟩ : ∃ (h' : Heap) (d' : List Int32), d' = (if 2 ≤ n then d2.set (1) c1 else d2) ∧ Ar Z h' e .char (d'.map Value.int) ∧ d'.length = n ∧ Hr x b_at Z EL1 1 4 h' [e] 116 #[.val (.int p0), .val (.int p1), .val (.int p2), .val (.int p3), .val (.int p4), .val (.int (Int32.ofNat n)), .val (.int c0), .val (.int c1), .val (.int c2), .val (.int c3), .val (.ref e), .unset, .unset] [] := by
      by_cases q : 2 ≤ n
      · have q2 := q
        have H1013 : Hr x b_at Z EL1 1 4 hp1007 [e] 110 #[.val (.int p0), .val (.int p1), .val (.int p2), .val (.int p3), .val (.int p4), .val (.int (Int32.ofNat n)), .val (.int c0), .val (.int c1), .val (.int c2), .val (.int c3), .val (.ref e), .unset, .unset] [] := H1010.icmpF at_107 (XT.ii_lt_f fun z => by have := (ilt (k := 2) (by omega) (by decide)).mp z; omega)
        have H1014 : Hr x b_at Z EL1 1 4 hp1007 [e] 112 #[.val (.int p0), .val (.int p1), .val (.int p2), .val (.int p3), .val (.int p4), .val (.int (Int32.ofNat n)), .val (.int c0), .val (.int c1), .val (.int c2), .val (.int c3), .val (.ref e), .unset, .unset] [.ref e] := H1013.aload at_110
        have H1015 : Hr x b_at Z EL1 1 4 hp1007 [e] 113 #[.val (.int p0), .val (.int p1), .val (.int p2), .val (.int p3), .val (.int p4), .val (.int (Int32.ofNat n)), .val (.int c0), .val (.int c1), .val (.int c2), .val (.int c3), .val (.ref e), .unset, .unset] [.int (1 : Int32), .ref e] := H1014.iconst at_112
        have H1016 : Hr x b_at Z EL1 1 4 hp1007 [e] 115 #[.val (.int p0), .val (.int p1), .val (.int p2), .val (.int p3), .val (.int p4), .val (.int (Int32.ofNat n)), .val (.int c0), .val (.int c1), .val (.int c2), .val (.int c3), .val (.ref e), .unset, .unset] [.int c1, .int (1 : Int32), .ref e] := H1015.iload at_113
        obtain ⟨hp1017, Wp1017, H1018⟩ := H1016.castore (by simp) F2 at_115 (i := 1) rfl (by rw [List.length_map, ln2]; omega) (hw := (nar_c r1.1 r1.2))
        have H1018 : Hr x b_at Z EL1 1 4 hp1017 [e] 116 #[.val (.int p0), .val (.int p1), .val (.int p2), .val (.int p3), .val (.int p4), .val (.int (Int32.ofNat n)), .val (.int c0), .val (.int c1), .val (.int c2), .val (.int c3), .val (.ref e), .unset, .unset] [] := H1018
        exact ⟨_, _, (if_pos q).symm, F2.seti Wp1017, by rw [List.length_set]; exact ln2, H1018⟩
      · have q2 := q
        have H1019 : Hr x b_at Z EL1 1 4 hp1007 [e] 116 #[.val (.int p0), .val (.int p1), .val (.int p2), .val (.int p3), .val (.int p4), .val (.int (Int32.ofNat n)), .val (.int c0), .val (.int c1), .val (.int c2), .val (.int c3), .val (.ref e), .unset, .unset] [] := H1010.icmpT at_107 (XT.ii_lt_t ((ilt (k := 2) (by omega) (by decide)).mpr (by omega)))
        exact ⟨_, _, (if_neg q).symm, F2, ln2, H1019⟩
    have H1020 : Hr x b_at Z EL1 1 4 hy1011 [e] 118 #[.val (.int p0), .val (.int p1), .val (.int p2), .val (.int p3), .val (.int p4), .val (.int (Int32.ofNat n)), .val (.int c0), .val (.int c1), .val (.int c2), .val (.int c3), .val (.ref e), .unset, .unset] [.int (Int32.ofNat n)] := H1012.iload at_116
    have H1021 : Hr x b_at Z EL1 1 4 hy1011 [e] 119 #[.val (.int p0), .val (.int p1), .val (.int p2), .val (.int p3), .val (.int p4), .val (.int (Int32.ofNat n)), .val (.int c0), .val (.int c1), .val (.int c2), .val (.int c3), .val (.ref e), .unset, .unset] [.int (3 : Int32), .int (Int32.ofNat n)] := H1020.iconst at_118
    obtain ⟨hy1022, dy1022, edy1022, Fy1022, lny1022, H1023⟩ : ∃ (h' : Heap) (d' : List Int32), d' = (if 3 ≤ n then dy1011.set (2) c2 else dy1011) ∧ Ar Z h' e .char (d'.map Value.int) ∧ d'.length = n ∧ Hr x b_at Z EL1 1 4 h' [e] 128 #[.val (.int p0), .val (.int p1), .val (.int p2), .val (.int p3), .val (.int p4), .val (.int (Int32.ofNat n)), .val (.int c0), .val (.int c1), .val (.int c2), .val (.int c3), .val (.ref e), .unset, .unset] [] := by
      by_cases q : 3 ≤ n
      · have q2 := q
        have H1024 : Hr x b_at Z EL1 1 4 hy1011 [e] 122 #[.val (.int p0), .val (.int p1), .val (.int p2), .val (.int p3), .val (.int p4), .val (.int (Int32.ofNat n)), .val (.int c0), .val (.int c1), .val (.int c2), .val (.int c3), .val (.ref e), .unset, .unset] [] := H1021.icmpF at_119 (XT.ii_lt_f fun z => by have := (ilt (k := 3) (by omega) (by decide)).mp z; omega)
        have H1025 : Hr x b_at Z EL1 1 4 hy1011 [e] 124 #[.val (.int p0), .val (.int p1), .val (.int p2), .val (.int p3), .val (.int p4), .val (.int (Int32.ofNat n)), .val (.int c0), .val (.int c1), .val (.int c2), .val (.int c3), .val (.ref e), .unset, .unset] [.ref e] := H1024.aload at_122
        have H1026 : Hr x b_at Z EL1 1 4 hy1011 [e] 125 #[.val (.int p0), .val (.int p1), .val (.int p2), .val (.int p3), .val (.int p4), .val (.int (Int32.ofNat n)), .val (.int c0), .val (.int c1), .val (.int c2), .val (.int c3), .val (.ref e), .unset, .unset] [.int (2 : Int32), .ref e] := H1025.iconst at_124
        have H1027 : Hr x b_at Z EL1 1 4 hy1011 [e] 127 #[.val (.int p0), .val (.int p1), .val (.int p2), .val (.int p3), .val (.int p4), .val (.int (Int32.ofNat n)), .val (.int c0), .val (.int c1), .val (.int c2), .val (.int c3), .val (.ref e), .unset, .unset] [.int c2, .int (2 : Int32), .ref e] := H1026.iload at_125
        obtain ⟨hp1028, Wp1028, H1029⟩ := H1027.castore (by simp) Fy1011 at_127 (i := 2) rfl (by rw [List.length_map, lny1011]; omega) (hw := (nar_c r2.1 r2.2))
        have H1029 : Hr x b_at Z EL1 1 4 hp1028 [e] 128 #[.val (.int p0), .val (.int p1), .val (.int p2), .val (.int p3), .val (.int p4), .val (.int (Int32.ofNat n)), .val (.int c0), .val (.int c1), .val (.int c2), .val (.int c3), .val (.ref e), .unset, .unset] [] := H1029
        exact ⟨_, _, (if_pos q).symm, Fy1011.seti Wp1028, by rw [List.length_set]; exact lny1011, H1029⟩
      · have q2 := q
        have H1030 : Hr x b_at Z EL1 1 4 hy1011 [e] 128 #[.val (.int p0), .val (.int p1), .val (.int p2), .val (.int p3), .val (.int p4), .val (.int (Int32.ofNat n)), .val (.int c0), .val (.int c1), .val (.int c2), .val (.int c3), .val (.ref e), .unset, .unset] [] := H1021.icmpT at_119 (XT.ii_lt_t ((ilt (k := 3) (by omega) (by decide)).mpr (by omega)))
        exact ⟨_, _, (if_neg q).symm, Fy1011, lny1011, H1030⟩
    have H1031 : Hr x b_at Z EL1 1 4 hy1022 [e] 130 #[.val (.int p0), .val (.int p1), .val (.int p2), .val (.int p3), .val (.int p4), .val (.int (Int32.ofNat n)), .val (.int c0), .val (.int c1), .val (.int c2), .val (.int c3), .val (.ref e), .unset, .unset] [.int (Int32.ofNat n)] := H1023.iload at_128
    have H1032 : Hr x b_at Z EL1 1 4 hy1022 [e] 131 #[.val (.int p0), .val (.int p1), .val (.int p2), .val (.int p3), .val (.int p4), .val (.int (Int32.ofNat n)), .val (.int c0), .val (.int c1), .val (.int c2), .val (.int c3), .val (.ref e), .unset, .unset] [.int (4 : Int32), .int (Int32.ofNat n)] := H1031.iconst at_130
    obtain ⟨hy1033, dy1033, edy1033, Fy1033, lny1033, H1034⟩ : ∃ (h' : Heap) (d' : List Int32), d' = (if 4 ≤ n then dy1022.set (3) c3 else dy1022) ∧ Ar Z h' e .char (d'.map Value.int) ∧ d'.length = n ∧ Hr x b_at Z EL1 1 4 h' [e] 140 #[.val (.int p0), .val (.int p1), .val (.int p2), .val (.int p3), .val (.int p4), .val (.int (Int32.ofNat n)), .val (.int c0), .val (.int c1), .val (.int c2), .val (.int c3), .val (.ref e), .unset, .unset] [] := by
      by_cases q : 4 ≤ n
      · have q2 := q
        have H1035 : Hr x b_at Z EL1 1 4 hy1022 [e] 134 #[.val (.int p0), .val (.int p1), .val (.int p2), .val (.int p3), .val (.int p4), .val (.int (Int32.ofNat n)), .val (.int c0), .val (.int c1), .val (.int c2), .val (.int c3), .val (.ref e), .unset, .unset] [] := H1032.icmpF at_131 (XT.ii_lt_f fun z => by have := (ilt (k := 4) (by omega) (by decide)).mp z; omega)
        have H1036 : Hr x b_at Z EL1 1 4 hy1022 [e] 136 #[.val (.int p0), .val (.int p1), .val (.int p2), .val (.int p3), .val (.int p4), .val (.int (Int32.ofNat n)), .val (.int c0), .val (.int c1), .val (.int c2), .val (.int c3), .val (.ref e), .unset, .unset] [.ref e] := H1035.aload at_134
        have H1037 : Hr x b_at Z EL1 1 4 hy1022 [e] 137 #[.val (.int p0), .val (.int p1), .val (.int p2), .val (.int p3), .val (.int p4), .val (.int (Int32.ofNat n)), .val (.int c0), .val (.int c1), .val (.int c2), .val (.int c3), .val (.ref e), .unset, .unset] [.int (3 : Int32), .ref e] := H1036.iconst at_136
        have H1038 : Hr x b_at Z EL1 1 4 hy1022 [e] 139 #[.val (.int p0), .val (.int p1), .val (.int p2), .val (.int p3), .val (.int p4), .val (.int (Int32.ofNat n)), .val (.int c0), .val (.int c1), .val (.int c2), .val (.int c3), .val (.ref e), .unset, .unset] [.int c3, .int (3 : Int32), .ref e] := H1037.iload at_137
        obtain ⟨hp1039, Wp1039, H1040⟩ := H1038.castore (by simp) Fy1022 at_139 (i := 3) rfl (by rw [List.length_map, lny1022]; omega) (hw := (nar_c r3.1 r3.2))
        have H1040 : Hr x b_at Z EL1 1 4 hp1039 [e] 140 #[.val (.int p0), .val (.int p1), .val (.int p2), .val (.int p3), .val (.int p4), .val (.int (Int32.ofNat n)), .val (.int c0), .val (.int c1), .val (.int c2), .val (.int c3), .val (.ref e), .unset, .unset] [] := H1040
        exact ⟨_, _, (if_pos q).symm, Fy1022.seti Wp1039, by rw [List.length_set]; exact lny1022, H1040⟩
      · have q2 := q
        have H1041 : Hr x b_at Z EL1 1 4 hy1022 [e] 140 #[.val (.int p0), .val (.int p1), .val (.int p2), .val (.int p3), .val (.int p4), .val (.int (Int32.ofNat n)), .val (.int c0), .val (.int c1), .val (.int c2), .val (.int c3), .val (.ref e), .unset, .unset] [] := H1032.icmpT at_131 (XT.ii_lt_t ((ilt (k := 4) (by omega) (by decide)).mpr (by omega)))
        exact ⟨_, _, (if_neg q).symm, Fy1022, lny1022, H1041⟩
    have hfin : dy1033 = [c0, c1, c2, c3].take n := by
      rcases hn with rfl | rfl | rfl | rfl <;> (simp only [edy1033, edy1022, edy1011, ed2, ed1]; rfl)
    rw [hfin] at Fy1033 lny1033
    obtain ⟨cs, hcs⟩ : ∃ z, z = [c0, c1, c2, c3].take n := ⟨_, rfl⟩
    rw [← hcs] at Fy1033 lny1033 hno
    have hrng : ∀ c ∈ cs, ¬ c < 0 ∧ ¬ 255 < c := fun c hc => by
      rw [hcs] at hc
      have := List.mem_of_mem_take hc
      simp only [List.mem_cons, List.not_mem_nil, or_false] at this
      rcases this with rfl | rfl | rfl | rfl
      · exact r0
      · exact r1
      · exact r2
      · exact r3
    obtain ⟨h3, E3, ⟨X3, D3, U3⟩, H1042⟩ := H1034.new (w5 hw) (w6 hw) (w7 hw) at_140 (by first | decide | (simp [b_at, Bx.R]; done) | (simp [b_at, Bx.R]; omega)) (by first | decide | (simp [b_at, Bx.R]; done) | (simp [b_at, Bx.R]; omega))
    obtain ⟨s, g_s⟩ : ∃ z, z = hy1033.size := ⟨_, rfl⟩
    rw [← g_s] at X3 D3 U3 H1042
    have H1042 : Hr x b_at Z EL1 2 8 h3 [s, e] 143 #[.val (.int p0), .val (.int p1), .val (.int p2), .val (.int p3), .val (.int p4), .val (.int (Int32.ofNat n)), .val (.int c0), .val (.int c1), .val (.int c2), .val (.int c3), .val (.ref e), .unset, .unset] [.ref s] := H1042
    have H1043 : Hr x b_at Z EL1 2 8 h3 [s, e] 144 #[.val (.int p0), .val (.int p1), .val (.int p2), .val (.int p3), .val (.int p4), .val (.int (Int32.ofNat n)), .val (.int c0), .val (.int c1), .val (.int c2), .val (.int c3), .val (.ref e), .unset, .unset] [.ref s, .ref s] := H1042.dup at_143
    have H1044 : Hr x b_at Z EL1 2 8 h3 [s, e] 146 #[.val (.int p0), .val (.int p1), .val (.int p2), .val (.int p3), .val (.int p4), .val (.int (Int32.ofNat n)), .val (.int c0), .val (.int c1), .val (.int c2), .val (.int c3), .val (.ref e), .unset, .unset] [.ref e, .ref s, .ref s] := H1043.aload at_144
    have Fc : Fld Z h3 s "java/lang/String" "coder" "B" (.int 0) := D3 (Or.inr (w31 hw)) (ty := .byte) (by decide)
    have Fv : Fld Z h3 s "java/lang/String" "value" "[B" .null := D3 (Or.inr (w33 hw)) (ty := .array .byte) (by decide)
    obtain ⟨_, h4, _, ⟨rfl, rfl, t, Fs⟩, K4, H1045⟩ := H1044.callI (argsL := [.ref e]) (rest := [.ref s]) (Wr := 1) (a := s) (ct_sini1 hw x.l x.nar x.kn hnar h3 s e cs X3 Fc Fv (Fy1033.ext E3) (by omega) hrng cz O hcz (by omega)) (sub1 (by simp)) (w8 hw) (w9 hw) (w7 hw) (w10 hw) at_146 pd_sini1 rfl (hf := by first | (simp [b_at, Bx.R]; done) | (simp [b_at, Bx.R]; omega)) (hl := by first | (simp [b_at, Bx.R]; done) | (simp [b_at, Bx.R]; omega)) (hc := by first | (simp [b_at, Bx.R]; done) | (simp [b_at, Bx.R]; omega)) (hs := by first | (simp [b_at, Bx.R]; done) | (simp [b_at, Bx.R]; omega))
    have H1045 : Hr x b_at Z EL1 6 (8 + (8 + cs.length)) h4 [s, e] 149 #[.val (.int p0), .val (.int p1), .val (.int p2), .val (.int p3), .val (.int p4), .val (.int (Int32.ofNat n)), .val (.int c0), .val (.int c1), .val (.int c2), .val (.int c3), .val (.ref e), .unset, .unset] [.ref s] := H1045
    have H1045 := H1045.weaken (K' := 6) (S' := 20) (sf' := []) (by decide) (by omega) (fun _ q => nomatch q)
    have H1045 : Hr x b_at Z EL1 6 20 h4 [] 149 #[.val (.int p0), .val (.int p1), .val (.int p2), .val (.int p3), .val (.int p4), .val (.int (Int32.ofNat n)), .val (.int c0), .val (.int c1), .val (.int c2), .val (.int c3), .val (.ref e), .unset, .unset] [.ref s] := H1045
    have H1046 : Hr x b_at Z EL1 6 20 h4 [] 151 #[.val (.int p0), .val (.int p1), .val (.int p2), .val (.int p3), .val (.int p4), .val (.int (Int32.ofNat n)), .val (.int c0), .val (.int c1), .val (.int c2), .val (.int c3), .val (.ref e), .val (.ref s), .unset] [] := H1045.astore at_149
    have H1047 : Hr x b_at Z EL1 6 20 h4 [] 153 #[.val (.int p0), .val (.int p1), .val (.int p2), .val (.int p3), .val (.int p4), .val (.int (Int32.ofNat n)), .val (.int c0), .val (.int c1), .val (.int c2), .val (.int c3), .val (.ref e), .val (.ref s), .unset] [.ref s] := H1046.aload at_151
    have hbn : ∀ y ∈ cs.map b8, ¬ y = b8 123 ∧ ¬ y = b8 125 := fun y hy => by
      obtain ⟨c, hc, rfl⟩ := List.mem_map.mp hy
      exact ⟨fun q => (hno c hc).1 (b8_inj (hrng c hc) (by decide) q), fun q => (hno c hc).2 (b8_inj (hrng c hc) (by decide) q)⟩
    have hl4 : (cs.map b8).length ≤ 4 := by rw [List.length_map]; omega
    obtain ⟨_, h5, _, ⟨k, rfl, rfl, hk, Xk, Fk⟩, K5, H1048⟩ := H1047.callS (argsL := [.ref s]) (rest := []) (Wr := 0) (ct_kof hw x.l x.nar x.kn hnar h4 s t (cs.map b8) Fs hbn (by rw [List.length_map]; omega) cz O hcz) sub0 (w34 hw) (w35 hw) (w36 hw) (w37 hw) at_153 pd_kof rfl (hf := by first | (simp [b_at, Bx.R]; done) | (simp [b_at, Bx.R]; omega)) (hl := by first | (simp [b_at, Bx.R]; done) | (simp [b_at, Bx.R]; omega)) (hc := by first | (simp [b_at, Bx.R]; done) | (simp [b_at, Bx.R]; omega)) (hs := by first | (simp [b_at, Bx.R]; done) | (simp [b_at, Bx.R]; omega))
    have H1048 : Hr x b_at Z EL1 9 41 h5 [] 156 #[.val (.int p0), .val (.int p1), .val (.int p2), .val (.int p3), .val (.int p4), .val (.int (Int32.ofNat n)), .val (.int c0), .val (.int c1), .val (.int c2), .val (.int c3), .val (.ref e), .val (.ref s), .unset] [.ref k] := H1048
    have Fs5 := Fs.keep K5 nin0 nin0
    have H1049 : Hr x b_at Z EL1 9 41 h5 [] 158 #[.val (.int p0), .val (.int p1), .val (.int p2), .val (.int p3), .val (.int p4), .val (.int (Int32.ofNat n)), .val (.int c0), .val (.int c1), .val (.int c2), .val (.int c3), .val (.ref e), .val (.ref s), .val (.ref k)] [] := H1048.astore at_156
    have H1050 : Hr x b_at Z EL1 9 41 h5 [] 160 #[.val (.int p0), .val (.int p1), .val (.int p2), .val (.int p3), .val (.int p4), .val (.int (Int32.ofNat n)), .val (.int c0), .val (.int c1), .val (.int c2), .val (.int c3), .val (.ref e), .val (.ref s), .val (.ref k)] [.ref s] := H1049.aload at_158
    have H1051 : Hr x b_at Z EL1 9 41 h5 [] 162 #[.val (.int p0), .val (.int p1), .val (.int p2), .val (.int p3), .val (.int p4), .val (.int (Int32.ofNat n)), .val (.int c0), .val (.int c1), .val (.int c2), .val (.int c3), .val (.ref e), .val (.ref s), .val (.ref k)] [.ref k, .ref s] := H1050.aload at_160
    obtain ⟨_, h6, _, ⟨rfl, rfl, e6⟩, K6, H1052⟩ := H1051.callV (argsL := []) (rest := [.ref s]) (Wr := 1) (a := k) (ct_lkey hw x.l x.nar x.kn hnar h5 k s Fk) sub0 Xk (w100 hw) (w101 hw) (w103 hw) (w103 hw) (w102 hw) (w36 hw) (w104 hw) at_162 pd_lkey rfl (hf := by first | (simp [b_at, Bx.R]; done) | (simp [b_at, Bx.R]; omega)) (hl := by first | (simp [b_at, Bx.R]; done) | (simp [b_at, Bx.R]; omega)) (hc := by first | (simp [b_at, Bx.R]; done) | (simp [b_at, Bx.R]; omega)) (hs := by first | (simp [b_at, Bx.R]; done) | (simp [b_at, Bx.R]; omega))
    rw [e6] at H1052
    have H1052 : Hr x b_at Z EL1 9 41 h5 [] 165 #[.val (.int p0), .val (.int p1), .val (.int p2), .val (.int p3), .val (.int p4), .val (.int (Int32.ofNat n)), .val (.int c0), .val (.int c1), .val (.int c2), .val (.int c3), .val (.ref e), .val (.ref s), .val (.ref k)] [.ref s, .ref s] := H1052
    obtain ⟨_, h7, _, ⟨rfl, rfl, e7⟩, K7, H1053⟩ := H1052.callV (argsL := [.ref s]) (rest := []) (Wr := 0) (a := s) (ct_seq hw x.l x.nar x.kn hnar h5 s t s t _ _ Fs5 Fs5 cz O hcz) sub0 Fs5.1 (w105 hw) (w106 hw) (w108 hw) (w108 hw) (w107 hw) (w7 hw) (w109 hw) at_165 pd_seq rfl (hf := by first | (simp [b_at, Bx.R]; done) | (simp [b_at, Bx.R]; omega)) (hl := by first | (simp [b_at, Bx.R]; done) | (simp [b_at, Bx.R]; omega)) (hc := by first | (simp [b_at, Bx.R]; done) | (simp [b_at, Bx.R]; omega)) (hs := by first | (simp [b_at, Bx.R]; done) | (simp [b_at, Bx.R]; omega))
    rw [e7] at H1053
    have H1053 : Hr x b_at Z EL1 9 41 h5 [] 168 #[.val (.int p0), .val (.int p1), .val (.int p2), .val (.int p3), .val (.int p4), .val (.int (Int32.ofNat n)), .val (.int c0), .val (.int c1), .val (.int c2), .val (.int c3), .val (.ref e), .val (.ref s), .val (.ref k)] [.int (if cs.map b8 = cs.map b8 then 1 else 0)] := H1053
    have H1054 : Hr x b_at Z EL1 9 41 h5 [] 171 #[.val (.int p0), .val (.int p1), .val (.int p2), .val (.int p3), .val (.int p4), .val (.int (Int32.ofNat n)), .val (.int c0), .val (.int c1), .val (.int c2), .val (.int c3), .val (.ref e), .val (.ref s), .val (.ref k)] [] := H1053.ifF at_168 (XT.i0_eq_f (by rw [if_pos rfl]; decide))
    have H1055 : Hr x b_at Z EL1 9 41 h5 [] 173 #[.val (.int p0), .val (.int p1), .val (.int p2), .val (.int p3), .val (.int p4), .val (.int (Int32.ofNat n)), .val (.int c0), .val (.int c1), .val (.int c2), .val (.int c3), .val (.ref e), .val (.ref s), .val (.ref k)] [.int c0] := H1054.iload at_171
    have H1056 : Hr x b_at Z EL1 9 41 h5 [] 175 #[.val (.int p0), .val (.int p1), .val (.int p2), .val (.int p3), .val (.int p4), .val (.int (Int32.ofNat n)), .val (.int c0), .val (.int c1), .val (.int c2), .val (.int c3), .val (.ref e), .val (.ref s), .val (.ref k)] [.int c1, .int c0] := H1055.iload at_173
    have H1057 : Hr x b_at Z EL1 9 41 h5 [] 177 #[.val (.int p0), .val (.int p1), .val (.int p2), .val (.int p3), .val (.int p4), .val (.int (Int32.ofNat n)), .val (.int c0), .val (.int c1), .val (.int c2), .val (.int c3), .val (.ref e), .val (.ref s), .val (.ref k)] [.int c2, .int c1, .int c0] := H1056.iload at_175
    have H1058 : Hr x b_at Z EL1 9 41 h5 [] 179 #[.val (.int p0), .val (.int p1), .val (.int p2), .val (.int p3), .val (.int p4), .val (.int (Int32.ofNat n)), .val (.int c0), .val (.int c1), .val (.int c2), .val (.int c3), .val (.ref e), .val (.ref s), .val (.ref k)] [.int c3, .int c2, .int c1, .int c0] := H1057.iload at_177
    have H1059 : Hr x b_at Z EL1 9 41 h5 [] 181 #[.val (.int p0), .val (.int p1), .val (.int p2), .val (.int p3), .val (.int p4), .val (.int (Int32.ofNat n)), .val (.int c0), .val (.int c1), .val (.int c2), .val (.int c3), .val (.ref e), .val (.ref s), .val (.ref k)] [.int (Int32.ofNat n), .int c3, .int c2, .int c1, .int c0] := H1058.iload at_179
    obtain ⟨afkey, ufkey, hlfkey, Elfkey, Llfkey, nlfkey, H1060⟩ := H1059.ldcS (n := 20) (bs := tFe) (z := 5) (w110 hw) (wStr hw) (ew hw) (by decide) (by decide) (by decide) (by decide) at_181 (by decide) (by decide) hnar (by first | (simp [b_at, Bx.R]; done) | (simp [b_at, Bx.R]; omega)) (by first | (simp [b_at, Bx.R]; done) | (simp [b_at, Bx.R]; omega))
    have H1060 : Hr x b_at Z EL1 11 65 hlfkey [] 183 #[.val (.int p0), .val (.int p1), .val (.int p2), .val (.int p3), .val (.int p4), .val (.int (Int32.ofNat n)), .val (.int c0), .val (.int c1), .val (.int c2), .val (.int c3), .val (.ref e), .val (.ref s), .val (.ref k)] [.ref afkey, .int (Int32.ofNat n), .int c3, .int c2, .int c1, .int c0] := H1060
    obtain ⟨_, hefkey, _, ⟨bfkey, yfkey, rfl, rfl, Sefkey⟩, Kefkey, H1061⟩ := H1060.callS (argsL := [.int c0, .int c1, .int c2, .int c3, .int (Int32.ofNat n), .ref afkey]) (rest := []) (Wr := 0) (ct_expd hw x.l x.nar x.kn hnar hlfkey c0 c1 c2 c3 n afkey ufkey _ hn (by simp) r0 r1 r2 r3 Llfkey f hfr P cz O hcz) sub0 (w111 hw) (w112 hw) (w2 hw) (w113 hw) at_183 pd_expd rfl (hf := by first | (simp [b_at, Bx.R]; done) | (simp [b_at, Bx.R]; omega)) (hl := by first | (simp [b_at, Bx.R]; done) | (simp [b_at, Bx.R]; omega)) (hc := by first | (simp [b_at, Bx.R]; done) | (simp [b_at, Bx.R]; omega)) (hs := by first | (simp [b_at, Bx.R]; done) | (simp [b_at, Bx.R]; omega))
    have H1061 : Hr x b_at Z EL1 17 107 hefkey [] 186 #[.val (.int p0), .val (.int p1), .val (.int p2), .val (.int p3), .val (.int p4), .val (.int (Int32.ofNat n)), .val (.int c0), .val (.int c1), .val (.int c2), .val (.int c3), .val (.ref e), .val (.ref s), .val (.ref k)] [.ref bfkey] := H1061
    rw [exp_bytes (by simp), ← hcs] at Sefkey
    have Fsfkey := (Fs5.ext Elfkey).keep Kefkey nin0 nin0
    have Xkfkey := (Xk.ext Elfkey).keep Kefkey
    have Fkfkey := (Fk.ext Elfkey).keep Kefkey nin0
    have H1062 : Hr x b_at Z EL1 17 107 hefkey [] 188 #[.val (.int p0), .val (.int p1), .val (.int p2), .val (.int p3), .val (.int p4), .val (.int (Int32.ofNat n)), .val (.int c0), .val (.int c1), .val (.int c2), .val (.int c3), .val (.ref e), .val (.ref s), .val (.ref k)] [.ref k, .ref bfkey] := H1061.aload at_186
    obtain ⟨_, hkfkey, _, ⟨zfkey, wfkey, rfl, rfl, Skfkey⟩, Kkfkey, H1063⟩ := H1062.callV (argsL := []) (rest := [.ref bfkey]) (Wr := 1) (a := k) (ct_fkey hw x.l x.nar x.kn hnar hefkey k s t _ Xkfkey Fkfkey Fsfkey (BL.b8 cs) hl4 cz O hcz) sub0 Xkfkey (w131 hw) (w132 hw) (w134 hw) (w134 hw) (w133 hw) (w36 hw) (w135 hw) at_188 pd_fkey rfl (hf := by first | (simp [b_at, Bx.R]; done) | (simp [b_at, Bx.R]; omega)) (hl := by first | (simp [b_at, Bx.R]; done) | (simp [b_at, Bx.R]; omega)) (hc := by first | (simp [b_at, Bx.R]; done) | (simp [b_at, Bx.R]; omega)) (hs := by first | (simp [b_at, Bx.R]; done) | (simp [b_at, Bx.R]; omega))
    have H1063 : Hr x b_at Z EL1 27 203 hkfkey [] 191 #[.val (.int p0), .val (.int p1), .val (.int p2), .val (.int p3), .val (.int p4), .val (.int (Int32.ofNat n)), .val (.int c0), .val (.int c1), .val (.int c2), .val (.int c3), .val (.ref e), .val (.ref s), .val (.ref k)] [.ref zfkey, .ref bfkey] := H1063
    have Sffkey := Sefkey.keep Kkfkey nin0 nin0
    obtain ⟨_, hqfkey, _, ⟨rfl, rfl, eqfkey⟩, Kqfkey, H1064⟩ := H1063.callV (argsL := [.ref zfkey]) (rest := []) (Wr := 0) (a := bfkey) (ct_seq hw x.l x.nar x.kn hnar hkfkey bfkey yfkey zfkey wfkey _ _ Sffkey Skfkey cz O hcz) sub0 Sffkey.1 (w105 hw) (w106 hw) (w108 hw) (w108 hw) (w107 hw) (w7 hw) (w109 hw) at_191 pd_seq rfl (hf := by first | (simp [b_at, Bx.R]; done) | (simp [b_at, Bx.R]; omega)) (hl := by first | (simp [b_at, Bx.R]; done) | (simp [b_at, Bx.R]; omega)) (hc := by first | (simp [b_at, Bx.R]; done) | (simp [b_at, Bx.R]; omega)) (hs := by first | (simp [b_at, Bx.R]; done) | (simp [b_at, Bx.R]; omega))
    rw [eqfkey] at H1064
    have H1064 : Hr x b_at Z EL1 27 203 hkfkey [] 194 #[.val (.int p0), .val (.int p1), .val (.int p2), .val (.int p3), .val (.int p4), .val (.int (Int32.ofNat n)), .val (.int c0), .val (.int c1), .val (.int c2), .val (.int c3), .val (.ref e), .val (.ref s), .val (.ref k)] [.int (if tOp ++ cs.map b8 ++ tCl ++ tFe = tOp ++ cs.map b8 ++ tCl ++ tFe then 1 else 0)] := H1064
    have H1065 : Hr x b_at Z EL1 27 203 hkfkey [] 197 #[.val (.int p0), .val (.int p1), .val (.int p2), .val (.int p3), .val (.int p4), .val (.int (Int32.ofNat n)), .val (.int c0), .val (.int c1), .val (.int c2), .val (.int c3), .val (.ref e), .val (.ref s), .val (.ref k)] [] := H1064.ifF at_194 (XT.i0_eq_f (by rw [if_pos rfl]; decide))
    have H1066 : Hr x b_at Z EL1 27 203 hkfkey [] 199 #[.val (.int p0), .val (.int p1), .val (.int p2), .val (.int p3), .val (.int p4), .val (.int (Int32.ofNat n)), .val (.int c0), .val (.int c1), .val (.int c2), .val (.int c3), .val (.ref e), .val (.ref s), .val (.ref k)] [.int c0] := H1065.iload at_197
    have H1067 : Hr x b_at Z EL1 27 203 hkfkey [] 201 #[.val (.int p0), .val (.int p1), .val (.int p2), .val (.int p3), .val (.int p4), .val (.int (Int32.ofNat n)), .val (.int c0), .val (.int c1), .val (.int c2), .val (.int c3), .val (.ref e), .val (.ref s), .val (.ref k)] [.int c1, .int c0] := H1066.iload at_199
    have H1068 : Hr x b_at Z EL1 27 203 hkfkey [] 203 #[.val (.int p0), .val (.int p1), .val (.int p2), .val (.int p3), .val (.int p4), .val (.int (Int32.ofNat n)), .val (.int c0), .val (.int c1), .val (.int c2), .val (.int c3), .val (.ref e), .val (.ref s), .val (.ref k)] [.int c2, .int c1, .int c0] := H1067.iload at_201
    have H1069 : Hr x b_at Z EL1 27 203 hkfkey [] 205 #[.val (.int p0), .val (.int p1), .val (.int p2), .val (.int p3), .val (.int p4), .val (.int (Int32.ofNat n)), .val (.int c0), .val (.int c1), .val (.int c2), .val (.int c3), .val (.ref e), .val (.ref s), .val (.ref k)] [.int c3, .int c2, .int c1, .int c0] := H1068.iload at_203
    have H1070 : Hr x b_at Z EL1 27 203 hkfkey [] 207 #[.val (.int p0), .val (.int p1), .val (.int p2), .val (.int p3), .val (.int p4), .val (.int (Int32.ofNat n)), .val (.int c0), .val (.int c1), .val (.int c2), .val (.int c3), .val (.ref e), .val (.ref s), .val (.ref k)] [.int (Int32.ofNat n), .int c3, .int c2, .int c1, .int c0] := H1069.iload at_205
    obtain ⟨arkey, urkey, hlrkey, Elrkey, Llrkey, nlrkey, H1071⟩ := H1070.ldcS (n := 32) (bs := tRe) (z := 8) (w245 hw) (wStr hw) (ew hw) (by decide) (by decide) (by decide) (by decide) at_207 (by decide) (by decide) hnar (by first | (simp [b_at, Bx.R]; done) | (simp [b_at, Bx.R]; omega)) (by first | (simp [b_at, Bx.R]; done) | (simp [b_at, Bx.R]; omega))
    have H1071 : Hr x b_at Z EL1 29 239 hlrkey [] 209 #[.val (.int p0), .val (.int p1), .val (.int p2), .val (.int p3), .val (.int p4), .val (.int (Int32.ofNat n)), .val (.int c0), .val (.int c1), .val (.int c2), .val (.int c3), .val (.ref e), .val (.ref s), .val (.ref k)] [.ref arkey, .int (Int32.ofNat n), .int c3, .int c2, .int c1, .int c0] := H1071
    obtain ⟨_, herkey, _, ⟨brkey, yrkey, rfl, rfl, Serkey⟩, Kerkey, H1072⟩ := H1071.callS (argsL := [.int c0, .int c1, .int c2, .int c3, .int (Int32.ofNat n), .ref arkey]) (rest := []) (Wr := 0) (ct_expd hw x.l x.nar x.kn hnar hlrkey c0 c1 c2 c3 n arkey urkey _ hn (by simp) r0 r1 r2 r3 Llrkey f hfr P cz O hcz) sub0 (w111 hw) (w112 hw) (w2 hw) (w113 hw) at_209 pd_expd rfl (hf := by first | (simp [b_at, Bx.R]; done) | (simp [b_at, Bx.R]; omega)) (hl := by first | (simp [b_at, Bx.R]; done) | (simp [b_at, Bx.R]; omega)) (hc := by first | (simp [b_at, Bx.R]; done) | (simp [b_at, Bx.R]; omega)) (hs := by first | (simp [b_at, Bx.R]; done) | (simp [b_at, Bx.R]; omega))
    have H1072 : Hr x b_at Z EL1 35 281 herkey [] 212 #[.val (.int p0), .val (.int p1), .val (.int p2), .val (.int p3), .val (.int p4), .val (.int (Int32.ofNat n)), .val (.int c0), .val (.int c1), .val (.int c2), .val (.int c3), .val (.ref e), .val (.ref s), .val (.ref k)] [.ref brkey] := H1072
    rw [exp_bytes (by simp), ← hcs] at Serkey
    have Fsrkey := ((Fsfkey.keep Kkfkey nin0 nin0).ext Elrkey).keep Kerkey nin0 nin0
    have Xkrkey := ((Xkfkey.keep Kkfkey).ext Elrkey).keep Kerkey
    have Fkrkey := ((Fkfkey.keep Kkfkey nin0).ext Elrkey).keep Kerkey nin0
    have H1073 : Hr x b_at Z EL1 35 281 herkey [] 214 #[.val (.int p0), .val (.int p1), .val (.int p2), .val (.int p3), .val (.int p4), .val (.int (Int32.ofNat n)), .val (.int c0), .val (.int c1), .val (.int c2), .val (.int c3), .val (.ref e), .val (.ref s), .val (.ref k)] [.ref k, .ref brkey] := H1072.aload at_212
    obtain ⟨_, hkrkey, _, ⟨zrkey, wrkey, rfl, rfl, Skrkey⟩, Kkrkey, H1074⟩ := H1073.callV (argsL := []) (rest := [.ref brkey]) (Wr := 1) (a := k) (ct_rkey hw x.l x.nar x.kn hnar herkey k s t _ Xkrkey Fkrkey Fsrkey (BL.b8 cs) hl4 cz O hcz) sub0 Xkrkey (w246 hw) (w247 hw) (w249 hw) (w249 hw) (w248 hw) (w36 hw) (w250 hw) at_214 pd_rkey rfl (hf := by first | (simp [b_at, Bx.R]; done) | (simp [b_at, Bx.R]; omega)) (hl := by first | (simp [b_at, Bx.R]; done) | (simp [b_at, Bx.R]; omega)) (hc := by first | (simp [b_at, Bx.R]; done) | (simp [b_at, Bx.R]; omega)) (hs := by first | (simp [b_at, Bx.R]; done) | (simp [b_at, Bx.R]; omega))
    have H1074 : Hr x b_at Z EL1 45 389 hkrkey [] 217 #[.val (.int p0), .val (.int p1), .val (.int p2), .val (.int p3), .val (.int p4), .val (.int (Int32.ofNat n)), .val (.int c0), .val (.int c1), .val (.int c2), .val (.int c3), .val (.ref e), .val (.ref s), .val (.ref k)] [.ref zrkey, .ref brkey] := H1074
    have Sfrkey := Serkey.keep Kkrkey nin0 nin0
    obtain ⟨_, hqrkey, _, ⟨rfl, rfl, eqrkey⟩, Kqrkey, H1075⟩ := H1074.callV (argsL := [.ref zrkey]) (rest := []) (Wr := 0) (a := brkey) (ct_seq hw x.l x.nar x.kn hnar hkrkey brkey yrkey zrkey wrkey _ _ Sfrkey Skrkey cz O hcz) sub0 Sfrkey.1 (w105 hw) (w106 hw) (w108 hw) (w108 hw) (w107 hw) (w7 hw) (w109 hw) at_217 pd_seq rfl (hf := by first | (simp [b_at, Bx.R]; done) | (simp [b_at, Bx.R]; omega)) (hl := by first | (simp [b_at, Bx.R]; done) | (simp [b_at, Bx.R]; omega)) (hc := by first | (simp [b_at, Bx.R]; done) | (simp [b_at, Bx.R]; omega)) (hs := by first | (simp [b_at, Bx.R]; done) | (simp [b_at, Bx.R]; omega))
    rw [eqrkey] at H1075
    have H1075 : Hr x b_at Z EL1 45 389 hkrkey [] 220 #[.val (.int p0), .val (.int p1), .val (.int p2), .val (.int p3), .val (.int p4), .val (.int (Int32.ofNat n)), .val (.int c0), .val (.int c1), .val (.int c2), .val (.int c3), .val (.ref e), .val (.ref s), .val (.ref k)] [.int (if tOp ++ cs.map b8 ++ tCl ++ tRe = tOp ++ cs.map b8 ++ tCl ++ tRe then 1 else 0)] := H1075
    have H1076 : Hr x b_at Z EL1 45 389 hkrkey [] 223 #[.val (.int p0), .val (.int p1), .val (.int p2), .val (.int p3), .val (.int p4), .val (.int (Int32.ofNat n)), .val (.int c0), .val (.int c1), .val (.int c2), .val (.int c3), .val (.ref e), .val (.ref s), .val (.ref k)] [] := H1075.ifF at_220 (XT.i0_eq_f (by rw [if_pos rfl]; decide))
    have H1077 : Hr x b_at Z EL1 45 389 hkrkey [] 225 #[.val (.int p0), .val (.int p1), .val (.int p2), .val (.int p3), .val (.int p4), .val (.int (Int32.ofNat n)), .val (.int c0), .val (.int c1), .val (.int c2), .val (.int c3), .val (.ref e), .val (.ref s), .val (.ref k)] [.int c0] := H1076.iload at_223
    have H1078 : Hr x b_at Z EL1 45 389 hkrkey [] 227 #[.val (.int p0), .val (.int p1), .val (.int p2), .val (.int p3), .val (.int p4), .val (.int (Int32.ofNat n)), .val (.int c0), .val (.int c1), .val (.int c2), .val (.int c3), .val (.ref e), .val (.ref s), .val (.ref k)] [.int c1, .int c0] := H1077.iload at_225
    have H1079 : Hr x b_at Z EL1 45 389 hkrkey [] 229 #[.val (.int p0), .val (.int p1), .val (.int p2), .val (.int p3), .val (.int p4), .val (.int (Int32.ofNat n)), .val (.int c0), .val (.int c1), .val (.int c2), .val (.int c3), .val (.ref e), .val (.ref s), .val (.ref k)] [.int c2, .int c1, .int c0] := H1078.iload at_227
    have H1080 : Hr x b_at Z EL1 45 389 hkrkey [] 231 #[.val (.int p0), .val (.int p1), .val (.int p2), .val (.int p3), .val (.int p4), .val (.int (Int32.ofNat n)), .val (.int c0), .val (.int c1), .val (.int c2), .val (.int c3), .val (.ref e), .val (.ref s), .val (.ref k)] [.int c3, .int c2, .int c1, .int c0] := H1079.iload at_229
    have H1081 : Hr x b_at Z EL1 45 389 hkrkey [] 233 #[.val (.int p0), .val (.int p1), .val (.int p2), .val (.int p3), .val (.int p4), .val (.int (Int32.ofNat n)), .val (.int c0), .val (.int c1), .val (.int c2), .val (.int c3), .val (.ref e), .val (.ref s), .val (.ref k)] [.int (Int32.ofNat n), .int c3, .int c2, .int c1, .int c0] := H1080.iload at_231
    obtain ⟨awkey, uwkey, hlwkey, Elwkey, Llwkey, nlwkey, H1082⟩ := H1081.ldcS (n := 28) (bs := tWa) (z := 7) (w252 hw) (wStr hw) (ew hw) (by decide) (by decide) (by decide) (by decide) at_233 (by decide) (by decide) hnar (by first | (simp [b_at, Bx.R]; done) | (simp [b_at, Bx.R]; omega)) (by first | (simp [b_at, Bx.R]; done) | (simp [b_at, Bx.R]; omega))
    have H1082 : Hr x b_at Z EL1 47 421 hlwkey [] 235 #[.val (.int p0), .val (.int p1), .val (.int p2), .val (.int p3), .val (.int p4), .val (.int (Int32.ofNat n)), .val (.int c0), .val (.int c1), .val (.int c2), .val (.int c3), .val (.ref e), .val (.ref s), .val (.ref k)] [.ref awkey, .int (Int32.ofNat n), .int c3, .int c2, .int c1, .int c0] := H1082
    obtain ⟨_, hewkey, _, ⟨bwkey, ywkey, rfl, rfl, Sewkey⟩, Kewkey, H1083⟩ := H1082.callS (argsL := [.int c0, .int c1, .int c2, .int c3, .int (Int32.ofNat n), .ref awkey]) (rest := []) (Wr := 0) (ct_expd hw x.l x.nar x.kn hnar hlwkey c0 c1 c2 c3 n awkey uwkey _ hn (by simp) r0 r1 r2 r3 Llwkey f hfr P cz O hcz) sub0 (w111 hw) (w112 hw) (w2 hw) (w113 hw) at_235 pd_expd rfl (hf := by first | (simp [b_at, Bx.R]; done) | (simp [b_at, Bx.R]; omega)) (hl := by first | (simp [b_at, Bx.R]; done) | (simp [b_at, Bx.R]; omega)) (hc := by first | (simp [b_at, Bx.R]; done) | (simp [b_at, Bx.R]; omega)) (hs := by first | (simp [b_at, Bx.R]; done) | (simp [b_at, Bx.R]; omega))
    have H1083 : Hr x b_at Z EL1 53 463 hewkey [] 238 #[.val (.int p0), .val (.int p1), .val (.int p2), .val (.int p3), .val (.int p4), .val (.int (Int32.ofNat n)), .val (.int c0), .val (.int c1), .val (.int c2), .val (.int c3), .val (.ref e), .val (.ref s), .val (.ref k)] [.ref bwkey] := H1083
    rw [exp_bytes (by simp), ← hcs] at Sewkey
    have Fswkey := ((Fsrkey.keep Kkrkey nin0 nin0).ext Elwkey).keep Kewkey nin0 nin0
    have Xkwkey := ((Xkrkey.keep Kkrkey).ext Elwkey).keep Kewkey
    have Fkwkey := ((Fkrkey.keep Kkrkey nin0).ext Elwkey).keep Kewkey nin0
    have H1084 : Hr x b_at Z EL1 53 463 hewkey [] 240 #[.val (.int p0), .val (.int p1), .val (.int p2), .val (.int p3), .val (.int p4), .val (.int (Int32.ofNat n)), .val (.int c0), .val (.int c1), .val (.int c2), .val (.int c3), .val (.ref e), .val (.ref s), .val (.ref k)] [.ref k, .ref bwkey] := H1083.aload at_238
    obtain ⟨_, hkwkey, _, ⟨zwkey, wwkey, rfl, rfl, Skwkey⟩, Kkwkey, H1085⟩ := H1084.callV (argsL := []) (rest := [.ref bwkey]) (Wr := 1) (a := k) (ct_wkey hw x.l x.nar x.kn hnar hewkey k s t _ Xkwkey Fkwkey Fswkey (BL.b8 cs) hl4 cz O hcz) sub0 Xkwkey (w253 hw) (w254 hw) (w256 hw) (w256 hw) (w255 hw) (w36 hw) (w257 hw) at_240 pd_wkey rfl (hf := by first | (simp [b_at, Bx.R]; done) | (simp [b_at, Bx.R]; omega)) (hl := by first | (simp [b_at, Bx.R]; done) | (simp [b_at, Bx.R]; omega)) (hc := by first | (simp [b_at, Bx.R]; done) | (simp [b_at, Bx.R]; omega)) (hs := by first | (simp [b_at, Bx.R]; done) | (simp [b_at, Bx.R]; omega))
    have H1085 : Hr x b_at Z EL1 63 567 hkwkey [] 243 #[.val (.int p0), .val (.int p1), .val (.int p2), .val (.int p3), .val (.int p4), .val (.int (Int32.ofNat n)), .val (.int c0), .val (.int c1), .val (.int c2), .val (.int c3), .val (.ref e), .val (.ref s), .val (.ref k)] [.ref zwkey, .ref bwkey] := H1085
    have Sfwkey := Sewkey.keep Kkwkey nin0 nin0
    obtain ⟨_, hqwkey, _, ⟨rfl, rfl, eqwkey⟩, Kqwkey, H1086⟩ := H1085.callV (argsL := [.ref zwkey]) (rest := []) (Wr := 0) (a := bwkey) (ct_seq hw x.l x.nar x.kn hnar hkwkey bwkey ywkey zwkey wwkey _ _ Sfwkey Skwkey cz O hcz) sub0 Sfwkey.1 (w105 hw) (w106 hw) (w108 hw) (w108 hw) (w107 hw) (w7 hw) (w109 hw) at_243 pd_seq rfl (hf := by first | (simp [b_at, Bx.R]; done) | (simp [b_at, Bx.R]; omega)) (hl := by first | (simp [b_at, Bx.R]; done) | (simp [b_at, Bx.R]; omega)) (hc := by first | (simp [b_at, Bx.R]; done) | (simp [b_at, Bx.R]; omega)) (hs := by first | (simp [b_at, Bx.R]; done) | (simp [b_at, Bx.R]; omega))
    rw [eqwkey] at H1086
    have H1086 : Hr x b_at Z EL1 63 567 hkwkey [] 246 #[.val (.int p0), .val (.int p1), .val (.int p2), .val (.int p3), .val (.int p4), .val (.int (Int32.ofNat n)), .val (.int c0), .val (.int c1), .val (.int c2), .val (.int c3), .val (.ref e), .val (.ref s), .val (.ref k)] [.int (if tOp ++ cs.map b8 ++ tCl ++ tWa = tOp ++ cs.map b8 ++ tCl ++ tWa then 1 else 0)] := H1086
    have H1087 : Hr x b_at Z EL1 63 567 hkwkey [] 249 #[.val (.int p0), .val (.int p1), .val (.int p2), .val (.int p3), .val (.int p4), .val (.int (Int32.ofNat n)), .val (.int c0), .val (.int c1), .val (.int c2), .val (.int c3), .val (.ref e), .val (.ref s), .val (.ref k)] [] := H1086.ifF at_246 (XT.i0_eq_f (by rw [if_pos rfl]; decide))
    have H1088 : Hr x b_at Z EL1 63 567 hkwkey [] 250 #[.val (.int p0), .val (.int p1), .val (.int p2), .val (.int p3), .val (.int p4), .val (.int (Int32.ofNat n)), .val (.int c0), .val (.int c1), .val (.int c2), .val (.int c3), .val (.ref e), .val (.ref s), .val (.ref k)] [.int (1 : Int32)] := H1087.iconst at_249
    have H1089 : Hr x b_at Z EL1 63 567 hkwkey [] 254 #[.val (.int p0), .val (.int p1), .val (.int p2), .val (.int p3), .val (.int p4), .val (.int (Int32.ofNat n)), .val (.int c0), .val (.int c1), .val (.int c2), .val (.int c3), .val (.ref e), .val (.ref s), .val (.ref k)] [.int (1 : Int32)] := H1088.goto at_250
    exact H1089.finZ at_254 (t := .boolean) (by first | rfl | decide) ⟨rfl, rfl⟩ sub0
  obtain ⟨_, hb0, _, ⟨rfl, rfl, eb0⟩, Kb0, H28⟩ := H27.callS (argsL := [.int c0]) (rest := []) (Wr := 0) (ct_brac hw x.l x.nar x.kn hnar h0 c0) sub0 (w0 hw) (w1 hw) (w2 hw) (w3 hw) at_42 pd_brac rfl (hf := by first | decide | (simp [b_at, Bx.R]; done) | (simp [b_at, Bx.R]; omega)) (hl := by first | decide | (simp [b_at, Bx.R]; done) | (simp [b_at, Bx.R]; omega)) (hc := by first | decide | (simp [b_at, Bx.R]; done) | (simp [b_at, Bx.R]; omega)) (hs := by first | decide | (simp [b_at, Bx.R]; done) | (simp [b_at, Bx.R]; omega))
  rw [eb0] at H28
  have H28 : Hr x b_at Z EL1 0 0 h0 [] 45 #[.val (.int p0), .val (.int p1), .val (.int p2), .val (.int p3), .val (.int p4), .val (.int (Int32.ofNat n)), .val (.int c0), .val (.int c1), .val (.int c2), .val (.int c3), .unset, .unset, .unset] [.int (if c0 = 123 ∨ c0 = 125 then 1 else 0)] := H28
  by_cases g0 : c0 = 123 ∨ c0 = 125
  · have z28 := g0
    have H29 : Hr x b_at Z EL1 0 0 h0 [] 90 #[.val (.int p0), .val (.int p1), .val (.int p2), .val (.int p3), .val (.int p4), .val (.int (Int32.ofNat n)), .val (.int c0), .val (.int c1), .val (.int c2), .val (.int c3), .unset, .unset, .unset] [] := H28.ifT at_45 (XT.i0_ne_t (by rw [if_pos g0]; decide))
    have H30 : Hr x b_at Z EL1 0 0 h0 [] 91 #[.val (.int p0), .val (.int p1), .val (.int p2), .val (.int p3), .val (.int p4), .val (.int (Int32.ofNat n)), .val (.int c0), .val (.int c1), .val (.int c2), .val (.int c3), .unset, .unset, .unset] [.int (1 : Int32)] := H29.iconst at_90
    exact H30.finZ at_91 (t := .boolean) (by first | rfl | decide) ⟨rfl, rfl⟩ sub0
  · have z30 := g0
    have H31 : Hr x b_at Z EL1 0 0 h0 [] 48 #[.val (.int p0), .val (.int p1), .val (.int p2), .val (.int p3), .val (.int p4), .val (.int (Int32.ofNat n)), .val (.int c0), .val (.int c1), .val (.int c2), .val (.int c3), .unset, .unset, .unset] [] := H28.ifF at_45 (XT.i0_ne_f (if_neg g0))
    have H32 : Hr x b_at Z EL1 0 0 h0 [] 50 #[.val (.int p0), .val (.int p1), .val (.int p2), .val (.int p3), .val (.int p4), .val (.int (Int32.ofNat n)), .val (.int c0), .val (.int c1), .val (.int c2), .val (.int c3), .unset, .unset, .unset] [.int (Int32.ofNat n)] := H31.iload at_48
    have H33 : Hr x b_at Z EL1 0 0 h0 [] 51 #[.val (.int p0), .val (.int p1), .val (.int p2), .val (.int p3), .val (.int p4), .val (.int (Int32.ofNat n)), .val (.int c0), .val (.int c1), .val (.int c2), .val (.int c3), .unset, .unset, .unset] [.int (2 : Int32), .int (Int32.ofNat n)] := H32.iconst at_50
    by_cases m1 : n < 2
    · have z33 := m1
      have H34 : Hr x b_at Z EL1 0 0 h0 [] 62 #[.val (.int p0), .val (.int p1), .val (.int p2), .val (.int p3), .val (.int p4), .val (.int (Int32.ofNat n)), .val (.int c0), .val (.int c1), .val (.int c2), .val (.int c3), .unset, .unset, .unset] [] := H33.icmpT at_51 (XT.ii_lt_t ((ilt (k := 2) (by omega) (by decide)).mpr (by omega)))
      have H35 : Hr x b_at Z EL1 0 0 h0 [] 64 #[.val (.int p0), .val (.int p1), .val (.int p2), .val (.int p3), .val (.int p4), .val (.int (Int32.ofNat n)), .val (.int c0), .val (.int c1), .val (.int c2), .val (.int c3), .unset, .unset, .unset] [.int (Int32.ofNat n)] := H34.iload at_62
      have H36 : Hr x b_at Z EL1 0 0 h0 [] 65 #[.val (.int p0), .val (.int p1), .val (.int p2), .val (.int p3), .val (.int p4), .val (.int (Int32.ofNat n)), .val (.int c0), .val (.int c1), .val (.int c2), .val (.int c3), .unset, .unset, .unset] [.int (3 : Int32), .int (Int32.ofNat n)] := H35.iconst at_64
      have H37 : Hr x b_at Z EL1 0 0 h0 [] 76 #[.val (.int p0), .val (.int p1), .val (.int p2), .val (.int p3), .val (.int p4), .val (.int (Int32.ofNat n)), .val (.int c0), .val (.int c1), .val (.int c2), .val (.int c3), .unset, .unset, .unset] [] := H36.icmpT at_65 (XT.ii_lt_t ((ilt (k := 3) (by omega) (by decide)).mpr (by omega)))
      have H38 : Hr x b_at Z EL1 0 0 h0 [] 78 #[.val (.int p0), .val (.int p1), .val (.int p2), .val (.int p3), .val (.int p4), .val (.int (Int32.ofNat n)), .val (.int c0), .val (.int c1), .val (.int c2), .val (.int c3), .unset, .unset, .unset] [.int (Int32.ofNat n)] := H37.iload at_76
      have H39 : Hr x b_at Z EL1 0 0 h0 [] 79 #[.val (.int p0), .val (.int p1), .val (.int p2), .val (.int p3), .val (.int p4), .val (.int (Int32.ofNat n)), .val (.int c0), .val (.int c1), .val (.int c2), .val (.int c3), .unset, .unset, .unset] [.int (4 : Int32), .int (Int32.ofNat n)] := H38.iconst at_78
      have H40 : Hr x b_at Z EL1 0 0 h0 [] 92 #[.val (.int p0), .val (.int p1), .val (.int p2), .val (.int p3), .val (.int p4), .val (.int (Int32.ofNat n)), .val (.int c0), .val (.int c1), .val (.int c2), .val (.int c3), .unset, .unset, .unset] [] := H39.icmpT at_79 (XT.ii_lt_t ((ilt (k := 4) (by omega) (by decide)).mpr (by omega)))
      refine rest (fun c hc => ?_) H40
      obtain rfl : n = 1 := by omega
      simp only [List.take, List.mem_cons, List.not_mem_nil, or_false] at hc
      rcases hc with rfl
      · exact ⟨fun q => g0 (Or.inl q), fun q => g0 (Or.inr q)⟩
    · have z40 := m1
      have H41 : Hr x b_at Z EL1 0 0 h0 [] 54 #[.val (.int p0), .val (.int p1), .val (.int p2), .val (.int p3), .val (.int p4), .val (.int (Int32.ofNat n)), .val (.int c0), .val (.int c1), .val (.int c2), .val (.int c3), .unset, .unset, .unset] [] := H33.icmpF at_51 (XT.ii_lt_f fun z => by have := (ilt (k := 2) (by omega) (by decide)).mp z; omega)
      have H42 : Hr x b_at Z EL1 0 0 h0 [] 56 #[.val (.int p0), .val (.int p1), .val (.int p2), .val (.int p3), .val (.int p4), .val (.int (Int32.ofNat n)), .val (.int c0), .val (.int c1), .val (.int c2), .val (.int c3), .unset, .unset, .unset] [.int c1] := H41.iload at_54
      obtain ⟨_, hb1, _, ⟨rfl, rfl, eb1⟩, Kb1, H43⟩ := H42.callS (argsL := [.int c1]) (rest := []) (Wr := 0) (ct_brac hw x.l x.nar x.kn hnar h0 c1) sub0 (w0 hw) (w1 hw) (w2 hw) (w3 hw) at_56 pd_brac rfl (hf := by first | decide | (simp [b_at, Bx.R]; done) | (simp [b_at, Bx.R]; omega)) (hl := by first | decide | (simp [b_at, Bx.R]; done) | (simp [b_at, Bx.R]; omega)) (hc := by first | decide | (simp [b_at, Bx.R]; done) | (simp [b_at, Bx.R]; omega)) (hs := by first | decide | (simp [b_at, Bx.R]; done) | (simp [b_at, Bx.R]; omega))
      rw [eb1] at H43
      have H43 : Hr x b_at Z EL1 0 0 h0 [] 59 #[.val (.int p0), .val (.int p1), .val (.int p2), .val (.int p3), .val (.int p4), .val (.int (Int32.ofNat n)), .val (.int c0), .val (.int c1), .val (.int c2), .val (.int c3), .unset, .unset, .unset] [.int (if c1 = 123 ∨ c1 = 125 then 1 else 0)] := H43
      by_cases g1 : c1 = 123 ∨ c1 = 125
      · have z43 := g1
        have H44 : Hr x b_at Z EL1 0 0 h0 [] 90 #[.val (.int p0), .val (.int p1), .val (.int p2), .val (.int p3), .val (.int p4), .val (.int (Int32.ofNat n)), .val (.int c0), .val (.int c1), .val (.int c2), .val (.int c3), .unset, .unset, .unset] [] := H43.ifT at_59 (XT.i0_ne_t (by rw [if_pos g1]; decide))
        have H45 : Hr x b_at Z EL1 0 0 h0 [] 91 #[.val (.int p0), .val (.int p1), .val (.int p2), .val (.int p3), .val (.int p4), .val (.int (Int32.ofNat n)), .val (.int c0), .val (.int c1), .val (.int c2), .val (.int c3), .unset, .unset, .unset] [.int (1 : Int32)] := H44.iconst at_90
        exact H45.finZ at_91 (t := .boolean) (by first | rfl | decide) ⟨rfl, rfl⟩ sub0
      · have z45 := g1
        have H46 : Hr x b_at Z EL1 0 0 h0 [] 62 #[.val (.int p0), .val (.int p1), .val (.int p2), .val (.int p3), .val (.int p4), .val (.int (Int32.ofNat n)), .val (.int c0), .val (.int c1), .val (.int c2), .val (.int c3), .unset, .unset, .unset] [] := H43.ifF at_59 (XT.i0_ne_f (if_neg g1))
        have H47 : Hr x b_at Z EL1 0 0 h0 [] 64 #[.val (.int p0), .val (.int p1), .val (.int p2), .val (.int p3), .val (.int p4), .val (.int (Int32.ofNat n)), .val (.int c0), .val (.int c1), .val (.int c2), .val (.int c3), .unset, .unset, .unset] [.int (Int32.ofNat n)] := H46.iload at_62
        have H48 : Hr x b_at Z EL1 0 0 h0 [] 65 #[.val (.int p0), .val (.int p1), .val (.int p2), .val (.int p3), .val (.int p4), .val (.int (Int32.ofNat n)), .val (.int c0), .val (.int c1), .val (.int c2), .val (.int c3), .unset, .unset, .unset] [.int (3 : Int32), .int (Int32.ofNat n)] := H47.iconst at_64
        by_cases m2 : n < 3
        · have z48 := m2
          have H49 : Hr x b_at Z EL1 0 0 h0 [] 76 #[.val (.int p0), .val (.int p1), .val (.int p2), .val (.int p3), .val (.int p4), .val (.int (Int32.ofNat n)), .val (.int c0), .val (.int c1), .val (.int c2), .val (.int c3), .unset, .unset, .unset] [] := H48.icmpT at_65 (XT.ii_lt_t ((ilt (k := 3) (by omega) (by decide)).mpr (by omega)))
          have H50 : Hr x b_at Z EL1 0 0 h0 [] 78 #[.val (.int p0), .val (.int p1), .val (.int p2), .val (.int p3), .val (.int p4), .val (.int (Int32.ofNat n)), .val (.int c0), .val (.int c1), .val (.int c2), .val (.int c3), .unset, .unset, .unset] [.int (Int32.ofNat n)] := H49.iload at_76
          have H51 : Hr x b_at Z EL1 0 0 h0 [] 79 #[.val (.int p0), .val (.int p1), .val (.int p2), .val (.int p3), .val (.int p4), .val (.int (Int32.ofNat n)), .val (.int c0), .val (.int c1), .val (.int c2), .val (.int c3), .unset, .unset, .unset] [.int (4 : Int32), .int (Int32.ofNat n)] := H50.iconst at_78
          have H52 : Hr x b_at Z EL1 0 0 h0 [] 92 #[.val (.int p0), .val (.int p1), .val (.int p2), .val (.int p3), .val (.int p4), .val (.int (Int32.ofNat n)), .val (.int c0), .val (.int c1), .val (.int c2), .val (.int c3), .unset, .unset, .unset] [] := H51.icmpT at_79 (XT.ii_lt_t ((ilt (k := 4) (by omega) (by decide)).mpr (by omega)))
          refine rest (fun c hc => ?_) H52
          obtain rfl : n = 2 := by omega
          simp only [List.take, List.mem_cons, List.not_mem_nil, or_false] at hc
          rcases hc with rfl | rfl
          · exact ⟨fun q => g0 (Or.inl q), fun q => g0 (Or.inr q)⟩
          · exact ⟨fun q => g1 (Or.inl q), fun q => g1 (Or.inr q)⟩
        · have z52 := m2
          have H53 : Hr x b_at Z EL1 0 0 h0 [] 68 #[.val (.int p0), .val (.int p1), .val (.int p2), .val (.int p3), .val (.int p4), .val (.int (Int32.ofNat n)), .val (.int c0), .val (.int c1), .val (.int c2), .val (.int c3), .unset, .unset, .unset] [] := H48.icmpF at_65 (XT.ii_lt_f fun z => by have := (ilt (k := 3) (by omega) (by decide)).mp z; omega)
          have H54 : Hr x b_at Z EL1 0 0 h0 [] 70 #[.val (.int p0), .val (.int p1), .val (.int p2), .val (.int p3), .val (.int p4), .val (.int (Int32.ofNat n)), .val (.int c0), .val (.int c1), .val (.int c2), .val (.int c3), .unset, .unset, .unset] [.int c2] := H53.iload at_68
          obtain ⟨_, hb2, _, ⟨rfl, rfl, eb2⟩, Kb2, H55⟩ := H54.callS (argsL := [.int c2]) (rest := []) (Wr := 0) (ct_brac hw x.l x.nar x.kn hnar h0 c2) sub0 (w0 hw) (w1 hw) (w2 hw) (w3 hw) at_70 pd_brac rfl (hf := by first | decide | (simp [b_at, Bx.R]; done) | (simp [b_at, Bx.R]; omega)) (hl := by first | decide | (simp [b_at, Bx.R]; done) | (simp [b_at, Bx.R]; omega)) (hc := by first | decide | (simp [b_at, Bx.R]; done) | (simp [b_at, Bx.R]; omega)) (hs := by first | decide | (simp [b_at, Bx.R]; done) | (simp [b_at, Bx.R]; omega))
          rw [eb2] at H55
          have H55 : Hr x b_at Z EL1 0 0 h0 [] 73 #[.val (.int p0), .val (.int p1), .val (.int p2), .val (.int p3), .val (.int p4), .val (.int (Int32.ofNat n)), .val (.int c0), .val (.int c1), .val (.int c2), .val (.int c3), .unset, .unset, .unset] [.int (if c2 = 123 ∨ c2 = 125 then 1 else 0)] := H55
          by_cases g2 : c2 = 123 ∨ c2 = 125
          · have z55 := g2
            have H56 : Hr x b_at Z EL1 0 0 h0 [] 90 #[.val (.int p0), .val (.int p1), .val (.int p2), .val (.int p3), .val (.int p4), .val (.int (Int32.ofNat n)), .val (.int c0), .val (.int c1), .val (.int c2), .val (.int c3), .unset, .unset, .unset] [] := H55.ifT at_73 (XT.i0_ne_t (by rw [if_pos g2]; decide))
            have H57 : Hr x b_at Z EL1 0 0 h0 [] 91 #[.val (.int p0), .val (.int p1), .val (.int p2), .val (.int p3), .val (.int p4), .val (.int (Int32.ofNat n)), .val (.int c0), .val (.int c1), .val (.int c2), .val (.int c3), .unset, .unset, .unset] [.int (1 : Int32)] := H56.iconst at_90
            exact H57.finZ at_91 (t := .boolean) (by first | rfl | decide) ⟨rfl, rfl⟩ sub0
          · have z57 := g2
            have H58 : Hr x b_at Z EL1 0 0 h0 [] 76 #[.val (.int p0), .val (.int p1), .val (.int p2), .val (.int p3), .val (.int p4), .val (.int (Int32.ofNat n)), .val (.int c0), .val (.int c1), .val (.int c2), .val (.int c3), .unset, .unset, .unset] [] := H55.ifF at_73 (XT.i0_ne_f (if_neg g2))
            have H59 : Hr x b_at Z EL1 0 0 h0 [] 78 #[.val (.int p0), .val (.int p1), .val (.int p2), .val (.int p3), .val (.int p4), .val (.int (Int32.ofNat n)), .val (.int c0), .val (.int c1), .val (.int c2), .val (.int c3), .unset, .unset, .unset] [.int (Int32.ofNat n)] := H58.iload at_76
            have H60 : Hr x b_at Z EL1 0 0 h0 [] 79 #[.val (.int p0), .val (.int p1), .val (.int p2), .val (.int p3), .val (.int p4), .val (.int (Int32.ofNat n)), .val (.int c0), .val (.int c1), .val (.int c2), .val (.int c3), .unset, .unset, .unset] [.int (4 : Int32), .int (Int32.ofNat n)] := H59.iconst at_78
            by_cases m3 : n < 4
            · have z60 := m3
              have H61 : Hr x b_at Z EL1 0 0 h0 [] 92 #[.val (.int p0), .val (.int p1), .val (.int p2), .val (.int p3), .val (.int p4), .val (.int (Int32.ofNat n)), .val (.int c0), .val (.int c1), .val (.int c2), .val (.int c3), .unset, .unset, .unset] [] := H60.icmpT at_79 (XT.ii_lt_t ((ilt (k := 4) (by omega) (by decide)).mpr (by omega)))
              refine rest (fun c hc => ?_) H61
              obtain rfl : n = 3 := by omega
              simp only [List.take, List.mem_cons, List.not_mem_nil, or_false] at hc
              rcases hc with rfl | rfl | rfl
              · exact ⟨fun q => g0 (Or.inl q), fun q => g0 (Or.inr q)⟩
              · exact ⟨fun q => g1 (Or.inl q), fun q => g1 (Or.inr q)⟩
              · exact ⟨fun q => g2 (Or.inl q), fun q => g2 (Or.inr q)⟩
            · have z61 := m3
              have H62 : Hr x b_at Z EL1 0 0 h0 [] 82 #[.val (.int p0), .val (.int p1), .val (.int p2), .val (.int p3), .val (.int p4), .val (.int (Int32.ofNat n)), .val (.int c0), .val (.int c1), .val (.int c2), .val (.int c3), .unset, .unset, .unset] [] := H60.icmpF at_79 (XT.ii_lt_f fun z => by have := (ilt (k := 4) (by omega) (by decide)).mp z; omega)
              have H63 : Hr x b_at Z EL1 0 0 h0 [] 84 #[.val (.int p0), .val (.int p1), .val (.int p2), .val (.int p3), .val (.int p4), .val (.int (Int32.ofNat n)), .val (.int c0), .val (.int c1), .val (.int c2), .val (.int c3), .unset, .unset, .unset] [.int c3] := H62.iload at_82
              obtain ⟨_, hb3, _, ⟨rfl, rfl, eb3⟩, Kb3, H64⟩ := H63.callS (argsL := [.int c3]) (rest := []) (Wr := 0) (ct_brac hw x.l x.nar x.kn hnar h0 c3) sub0 (w0 hw) (w1 hw) (w2 hw) (w3 hw) at_84 pd_brac rfl (hf := by first | decide | (simp [b_at, Bx.R]; done) | (simp [b_at, Bx.R]; omega)) (hl := by first | decide | (simp [b_at, Bx.R]; done) | (simp [b_at, Bx.R]; omega)) (hc := by first | decide | (simp [b_at, Bx.R]; done) | (simp [b_at, Bx.R]; omega)) (hs := by first | decide | (simp [b_at, Bx.R]; done) | (simp [b_at, Bx.R]; omega))
              rw [eb3] at H64
              have H64 : Hr x b_at Z EL1 0 0 h0 [] 87 #[.val (.int p0), .val (.int p1), .val (.int p2), .val (.int p3), .val (.int p4), .val (.int (Int32.ofNat n)), .val (.int c0), .val (.int c1), .val (.int c2), .val (.int c3), .unset, .unset, .unset] [.int (if c3 = 123 ∨ c3 = 125 then 1 else 0)] := H64
              by_cases g3 : c3 = 123 ∨ c3 = 125
              · have z64 := g3
                have H65 : Hr x b_at Z EL1 0 0 h0 [] 90 #[.val (.int p0), .val (.int p1), .val (.int p2), .val (.int p3), .val (.int p4), .val (.int (Int32.ofNat n)), .val (.int c0), .val (.int c1), .val (.int c2), .val (.int c3), .unset, .unset, .unset] [] := H64.ifF at_87 (XT.i0_eq_f (by rw [if_pos g3]; decide))
                have H66 : Hr x b_at Z EL1 0 0 h0 [] 91 #[.val (.int p0), .val (.int p1), .val (.int p2), .val (.int p3), .val (.int p4), .val (.int (Int32.ofNat n)), .val (.int c0), .val (.int c1), .val (.int c2), .val (.int c3), .unset, .unset, .unset] [.int (1 : Int32)] := H65.iconst at_90
                exact H66.finZ at_91 (t := .boolean) (by first | rfl | decide) ⟨rfl, rfl⟩ sub0
              · have z66 := g3
                have H67 : Hr x b_at Z EL1 0 0 h0 [] 92 #[.val (.int p0), .val (.int p1), .val (.int p2), .val (.int p3), .val (.int p4), .val (.int (Int32.ofNat n)), .val (.int c0), .val (.int c1), .val (.int c2), .val (.int c3), .unset, .unset, .unset] [] := H64.ifT at_87 (XT.i0_eq_t (if_neg g3))
                refine rest (fun c hc => ?_) H67
                obtain rfl : n = 4 := by omega
                simp only [List.take, List.mem_cons, List.not_mem_nil, or_false] at hc
                rcases hc with rfl | rfl | rfl | rfl
                · exact ⟨fun q => g0 (Or.inl q), fun q => g0 (Or.inr q)⟩
                · exact ⟨fun q => g1 (Or.inl q), fun q => g1 (Or.inr q)⟩
                · exact ⟨fun q => g2 (Or.inl q), fun q => g2 (Or.inr q)⟩
                · exact ⟨fun q => g3 (Or.inl q), fun q => g3 (Or.inr q)⟩
set_option maxRecDepth 65536 in
set_option maxHeartbeats 4000000 in
theorem comes_1 {Post : Tables → Env → Array Value → State → Outcome → State → Prop} (hpost : ∀ tb e args s v u, (limb_1_1.after args s (.returned v) u = true ∧ limb_1_2.after args s (.returned v) u = true ∧ True) → FramedW s (.returned v) u (Jvm.fieldLocs frame_1_writes args s ++ Jvm.arrayLocs frame_1_arrays args s ++ Jvm.staticLocs frame_1_statics s) 80 9792 → Post tb e args s (.returned v) u) :
    ArmFor flags0 classFile x code maxLocals ret World_1 tables_1 room_1 Calls_1 rest_1 Pre_1 Post := by
  intro l hfl _ _ p e ha hc hk s m args below hf hA hF happ hP
  obtain ⟨hcalls, hrest, hpre⟩ := hP
  obtain ⟨-, -, -, hnamed, -, -, -, hat⟩ := (Spec.applies_iff hf).mp happ
  obtain ⟨hg, hn⟩ := and_e (Cond.before_iff.mp (show (Jvm.Cond.and given_1 narrow_1).before args s = true from hpre))
  obtain ⟨g0, hg⟩ := and_e hg
  obtain ⟨g1, hg⟩ := and_e hg
  obtain ⟨g2, hg⟩ := and_e hg
  obtain ⟨g3, hg⟩ := and_e hg
  obtain ⟨g4, hg⟩ := and_e hg
  obtain ⟨v0, v1, v2, v3, v4, rfl⟩ : ∃ v0 v1 v2 v3 v4 : Value, args = #[v0, v1, v2, v3, v4] := by
    have hs : args.size = 5 := by simpa [Cond.value, given_1] using g0
    obtain ⟨L⟩ := args
    match L, hs with
    | [v0, v1, v2, v3, v4], _ => exact ⟨v0, v1, v2, v3, v4, rfl⟩
  have hw := fun d (hd : d ∈ tables_1) => atoms_spec (ws := Jvm.Cond.code x code maxLocals ret :: tables_1) hat d (List.mem_cons_of_mem _ hd)
  obtain ⟨hsets, hown0⟩ := atoms_of _ (rest_1_c_eq ▸ (show rest_1_c.before _ s = true from hrest))
  obtain ⟨i0, e0⟩ := is_v g1
  obtain rfl : v0 = (.int i0) := Option.some.inj e0
  obtain ⟨i1, e1⟩ := is_v g2
  obtain rfl : v1 = (.int i1) := Option.some.inj e1
  obtain ⟨i2, e2⟩ := is_v g3
  obtain rfl : v2 = (.int i2) := Option.some.inj e2
  obtain ⟨i3, e3⟩ := is_v g4
  obtain rfl : v3 = (.int i3) := Option.some.inj e3
  obtain ⟨i4, e4⟩ := is_v hg
  obtain rfl : v4 = (.int i4) := Option.some.inj e4
  have n5 := not_v (Cond.before_iff.mp (hsets _ (List.mem_of_getElem? (i := 2) rfl)))
  obtain ⟨cz, ecz⟩ := is_v (Cond.before_iff.mp (hsets _ (List.mem_of_getElem? (i := 1) rfl)))
  have O : Sta s s.heap "java/lang/String" "COMPACT_STRINGS" "Z" (.int cz) := Sta.start ecz (Or.inl (hsets _ (List.mem_of_getElem? (i := 0) rfl)))
  have hcz : ¬ (cz = (0 : Int32)) := gotF (Cond.eq_ints ecz (Term.int_eval (0))) n5
  have hCH : CHv s EL1 s.vm s.heap := CHv.start (ew hw) (fun p hp => hcalls.1 p hp) (hsets _ (List.mem_of_getElem? (i := 2) rfl)) (w23 hw) (w6 hw)
  obtain ⟨f, ef, rf⟩ := isR_v (Cond.before_iff.mp (hsets _ (List.mem_of_getElem? (i := 8) rfl)))
  have Pf : Sta s s.heap "jdk/internal/util/Preconditions" "SIOOBE_FORMATTER" "Ljava/util/function/BiFunction;" f := Sta.start ef (Or.inl (hsets _ (List.mem_of_getElem? (i := 7) rfl)))
  obtain ⟨n, o, h1, h2, h3, _, L, sn, rfl, ⟨rfl, -⟩, -, -, N, -, hnw, hq⟩ := ct_law hw l false false rfl s.heap i0 i1 i2 i3 i4 f rf Pf cz O hcz tables_1 p e ha hc hk s m _ below hf ((Spec.applies_iff_loose hf).mp happ).1 ⟨rfl, State.Warmed39.refl s, rfl, hCH, Ext.rfl' _, fun _ q => nomatch q⟩ (fun q => nomatch q)
  refine ⟨n, _, h1, h2, h3, hpost _ _ _ _ _ _ ⟨Cond.after_iff.mpr rfl, Cond.after_iff.mpr (eq_i res_at (Term.int_eval (1)) rfl), trivial⟩ ⟨hq.1, hq.2.1, hq.2.2.1, (hq.2.2.2.sift fun y hy => Or.inr (N y hy)).mono (by decide) (by decide)⟩⟩
theorem main_1_1 : Claimed_1_1 := comes_1 fun _ _ _ _ _ _ h hF => ⟨h.1, hF⟩
theorem main_1_2 : Claimed_1_2 := comes_1 fun _ _ _ _ _ _ h hF => ⟨h.2.1, hF⟩
end Jvm.Pilot.@@N@@
namespace Jvm.Pilot.@@N@@
open Jvm Jvm.ClassFile Sem Op Lib Jvm.Free Jvm.Stand Jvm.Pilot.@@N@@.Jvm.D
/-! MADE BY PROGRAM (witnessworld.py) out of the Statement's table words and the real class files: 27 classes; the members and pool entries that the words name. The judged class is class 1, her method 1. -/
namespace start1
open Jvm.ClassFile
def u (s : String) : CpInfo := .utf8 (stringToUtf16 s)
/-- a pool by its gaps: so many unusable entries, then the entry; so many at the end -/
def gap : Nat → List CpInfo → List CpInfo
  | 0, r => r
  | n + 1, r => .unusable :: gap n r
def poolList (es : List (Nat × CpInfo)) (last : Nat) : List CpInfo := es.foldr (fun e r => gap e.1 (e.2 :: r)) (gap last [])
def pool (es : List (Nat × CpInfo)) (last : Nat) : Array CpInfo := ⟨poolList es last⟩
def fileOf (pool : Array CpInfo) (this : Nat) (attrs : Array Attribute := #[]) (ms : Array MethodInfo := #[]) (fl : Nat := 33) (sup : Nat := 0) (ifs : Array Nat := #[]) (fds : Array FieldInfo := #[]) : ClassFile where
  minorVersion := 0
  majorVersion := 65
  constantPool := pool
  accessFlags := fl
  thisClass := this
  superClass := sup
  interfaces := ifs
  fields := fds
  methods := ms
  attributes := attrs
def plain (name : String) (sup : Option ClassId) : Class where
  name := name
  kind := .ordinary
  loader := none
  accessFlags := 33
  super := sup
  interfaces := #[]
  cf := none
  fields := #[]
  methods := #[]
  instanceTypes := #[]
  staticTypes := #[]
  resolved := #[]
  callSites := []
  init := .initialized
  statics := none
  mirror := none

def pool0 : Array CpInfo := pool [(5, u "<init>"), (0, u "()V"), (1, .class_ 10), (1, u "java/lang/Object")] 113

def k0c0 : Code := { maxStack := 0, maxLocals := 1, code := object_method_1_code, exceptionTable := #[], attributes := #[] }
def k0m0 : Method := { name := "<init>", desc := "()V", sig := { parameters := [], returnType := none }, accessFlags := 1, code := some k0c0 }
/-- java/lang/Object -/
def k0 : Class := { plain "java/lang/Object" none with
  accessFlags := 33
  interfaces := #[]
  cf := some (fileOf pool0 8 #[] #[{ accessFlags := 1, nameIndex := 5, descriptorIndex := 6, attributes := #[] }] 33 0 #[] #[])
  fields := #[]
  methods := #[k0m0]
  instanceTypes := #[]
  staticTypes := #[]
  resolved := Array.replicate 124 none
  statics := none }

def pool1 : Array CpInfo := pool [(2, .class_ 4), (1, u "java/lang/Object"), (0, u "<init>"), (0, u "()V"), (0, .methodref 8 9), (0, .class_ 10), (0, .nameAndType 11 12), (0, u "com/example/ortigia/ortigia/LockKeysOfPinLaw"), (0, u "brace"), (0, u "(C)Z"), (0, .class_ 14), (0, u "java/lang/String"), (0, .methodref 13 16), (0, .nameAndType 5 17), (0, u "([C)V"), (0, .methodref 19 20), (0, .class_ 21), (0, .nameAndType 22 23), (0, u "com/example/ortigia/ortigia/LockKeys"), (0, u "of"), (0, u "(Ljava/lang/String;)Lcom/example/ortigia/ortigia/LockKeys;"), (0, .methodref 19 25), (0, .nameAndType 26 27), (0, u "lockKey"), (0, u "()Ljava/lang/String;"), (0, .methodref 13 29), (0, .nameAndType 30 31), (0, u "equals"), (0, u "(Ljava/lang/Object;)Z"), (0, .string 33), (0, u "fence"), (0, .methodref 8 35), (0, .nameAndType 36 37), (0, u "expected"), (0, u "(CCCCILjava/lang/String;)Ljava/lang/String;"), (0, .methodref 19 39), (0, .nameAndType 40 27), (0, u "fenceKey"), (0, .string 42), (0, u "released"), (0, .methodref 19 44), (0, .nameAndType 45 27), (0, u "releasedChannel"), (0, .string 47), (0, u "waiters"), (0, .methodref 19 49), (0, .nameAndType 50 27), (0, u "waitersKey"), (0, .methodref 13 52), (0, .nameAndType 53 54), (0, u "length"), (0, u "()I"), (0, .methodref 13 56), (0, .nameAndType 57 58), (0, u "charAt"), (0, u "(I)C"), (2, u "law"), (0, u "(IIIII)Z")] 5

def k1m0 : Method := { name := "<init>", desc := "()V", sig := { parameters := [], returnType := none }, accessFlags := 1, code := none }
def k1c1 : Code := { maxStack := 6, maxLocals := 13, code := code, exceptionTable := #[], attributes := #[] }
def k1m1 : Method := { name := "law", desc := "(IIIII)Z", sig := { parameters := [.int, .int, .int, .int, .int], returnType := some .boolean }, accessFlags := 9, code := some k1c1 }
def k1c2 : Code := { maxStack := 2, maxLocals := 1, code := method_3_code, exceptionTable := #[], attributes := #[] }
def k1m2 : Method := { name := "brace", desc := "(C)Z", sig := { parameters := [.char], returnType := some .boolean }, accessFlags := 10, code := some k1c2 }
def k1c3 : Code := { maxStack := 4, maxLocals := 9, code := method_4_code, exceptionTable := #[], attributes := #[] }
def k1m3 : Method := { name := "expected", desc := "(CCCCILjava/lang/String;)Ljava/lang/String;", sig := { parameters := [.char, .char, .char, .char, .int, (.object "java/lang/String")], returnType := some (.object "java/lang/String") }, accessFlags := 10, code := some k1c3 }
/-- com/example/ortigia/ortigia/LockKeysOfPinLaw -/
def k1 : Class := { plain "com/example/ortigia/ortigia/LockKeysOfPinLaw" (some 0) with
  accessFlags := 49
  interfaces := #[]
  cf := some (fileOf pool1 8 #[] #[{ accessFlags := 1, nameIndex := 5, descriptorIndex := 6, attributes := #[] }, { accessFlags := 9, nameIndex := 61, descriptorIndex := 62, attributes := #[] }, { accessFlags := 10, nameIndex := 11, descriptorIndex := 12, attributes := #[] }, { accessFlags := 10, nameIndex := 36, descriptorIndex := 37, attributes := #[] }] 49 2 #[] #[])
  fields := #[]
  methods := #[k1m0, k1m1, k1m2, k1m3]
  instanceTypes := #[]
  staticTypes := #[]
  resolved := Array.replicate 68 none
  statics := none }

def pool2 : Array CpInfo := pool [(1, .class_ 2), (0, u "java/io/Serializable"), (0, .class_ 4), (0, u "java/lang/Object")] 2

/-- java/io/Serializable -/
def k2 : Class := { plain "java/io/Serializable" (some 0) with
  accessFlags := 1537
  interfaces := #[]
  cf := some (fileOf pool2 1 #[] #[] 1537 3 #[] #[])
  fields := #[]
  methods := #[]
  instanceTypes := #[]
  staticTypes := #[]
  resolved := Array.replicate 7 none
  statics := none }

def pool3 : Array CpInfo := pool [(1, .class_ 2), (0, u "java/lang/Comparable"), (0, .class_ 4), (0, u "java/lang/Object")] 7

/-- java/lang/Comparable -/
def k3 : Class := { plain "java/lang/Comparable" (some 0) with
  accessFlags := 1537
  interfaces := #[]
  cf := some (fileOf pool3 1 #[] #[] 1537 3 #[] #[])
  fields := #[]
  methods := #[]
  instanceTypes := #[]
  staticTypes := #[]
  resolved := Array.replicate 12 none
  statics := none }

def pool4 : Array CpInfo := pool [(2, .class_ 4), (1, u "java/lang/CharSequence"), (42, .class_ 48), (0, u "java/lang/CharSequence$1CodePointIterator"), (10, .class_ 60), (0, u "java/lang/CharSequence$1CharIterator"), (5, .class_ 67), (0, u "java/lang/Object")] 63

/-- java/lang/CharSequence -/
def k4 : Class := { plain "java/lang/CharSequence" (some 0) with
  accessFlags := 1537
  interfaces := #[]
  cf := some (fileOf pool4 2 #[.nestMembers #[47, 59]] #[] 1537 66 #[] #[])
  fields := #[]
  methods := #[]
  instanceTypes := #[]
  staticTypes := #[]
  resolved := Array.replicate 131 none
  statics := none }

def pool5 : Array CpInfo := pool [(1, .class_ 2), (0, u "java/lang/constant/Constable"), (0, .class_ 4), (0, u "java/lang/Object")] 6

/-- java/lang/constant/Constable -/
def k5 : Class := { plain "java/lang/constant/Constable" (some 0) with
  accessFlags := 1537
  interfaces := #[]
  cf := some (fileOf pool5 1 #[] #[] 1537 3 #[] #[])
  fields := #[]
  methods := #[]
  instanceTypes := #[]
  staticTypes := #[]
  resolved := Array.replicate 11 none
  statics := none }

def pool6 : Array CpInfo := pool [(1, .class_ 2), (0, u "java/lang/constant/ConstantDesc"), (0, .class_ 4), (0, u "java/lang/Object")] 32

/-- java/lang/constant/ConstantDesc -/
def k6 : Class := { plain "java/lang/constant/ConstantDesc" (some 0) with
  accessFlags := 1537
  interfaces := #[]
  cf := some (fileOf pool6 1 #[] #[] 1537 3 #[] #[])
  fields := #[]
  methods := #[]
  instanceTypes := #[]
  staticTypes := #[]
  resolved := Array.replicate 37 none
  statics := none }

def pool7 : Array CpInfo := pool [(1, .methodref 2 3), (0, .class_ 4), (0, .nameAndType 5 6), (0, u "java/lang/Object"), (0, u "<init>"), (0, u "()V"), (2, .fieldref 10 11), (0, .class_ 12), (0, .nameAndType 13 14), (0, u "java/lang/String"), (0, u "value"), (0, u "[B"), (0, .fieldref 10 16), (0, .nameAndType 17 18), (0, u "coder"), (0, u "B"), (2, u "hash"), (0, u "I"), (2, u "hashIsZero"), (0, u "Z"), (0, .methodref 10 28), (0, .nameAndType 5 29), (0, u "([CIILjava/lang/Void;)V"), (8, .fieldref 10 39), (0, .nameAndType 40 26), (0, u "COMPACT_STRINGS"), (1, .class_ 44), (1, u "java/lang/StringUTF16"), (0, u "compress"), (1, .methodref 42 48), (0, .nameAndType 49 50), (0, u "coderFromArrayLen"), (0, u "([BI)B"), (3, .methodref 55 56), (0, .class_ 57), (0, .nameAndType 58 59), (0, u "java/util/Arrays"), (0, u "copyOfRange"), (0, u "([BII)[B"), (47, .class_ 109), (1, u "java/lang/StringLatin1"), (32, u "()Z"), (34, .methodref 42 178), (0, .nameAndType 45 179), (0, u "([CII)[B"), (13, .class_ 195), (1, u "java/lang/System"), (16, .methodref 193 213), (0, .nameAndType 214 215), (0, u "arraycopy"), (0, u "(Ljava/lang/Object;ILjava/lang/Object;II)V"), (118, u "()I"), (0, .methodref 10 336), (0, .nameAndType 17 337), (0, u "()B"), (2, u "()[B"), (22, u "([BI)C"), (27, u "(II)V"), (35, u "(I)C"), (61, .methodref 10 490), (0, .nameAndType 5 491), (0, u "(Ljava/lang/AbstractStringBuilder;Ljava/lang/Void;)V"), (0, .methodref 10 493), (0, .nameAndType 494 142), (0, u "isLatin1"), (0, .methodref 107 496), (0, .nameAndType 497 363), (0, u "charAt"), (3, u "checkIndex"), (3, .methodref 10 506), (0, .nameAndType 507 334), (0, u "length"), (24, u "getBytes"), (8, .methodref 107 542), (0, .nameAndType 543 544), (0, u "equals"), (0, u "([B[B)Z"), (4, .methodref 550 506), (0, .class_ 551), (0, u "java/lang/AbstractStringBuilder"), (0, .methodref 550 553), (0, .nameAndType 554 340), (0, u "getValue"), (18, u "(Ljava/lang/Object;)Z"), (1, .class_ 576), (0, u "java/lang/CharSequence"), (22, u "CASE_INSENSITIVE_ORDER"), (0, u "Ljava/util/Comparator;"), (32, .methodref 10 634), (0, .nameAndType 635 636), (0, u "indexOf"), (0, u "(II)I"), (0, .methodref 107 638), (0, .nameAndType 635 639), (0, u "([BIII)I"), (52, u "isEmpty"), (72, u "(I)I"), (55, u "([BIB)V"), (188, u "([C)V"), (36, .methodref 550 493), (5, .fieldref 1054 1055), (0, .class_ 1056), (0, .nameAndType 1057 1058), (0, u "jdk/internal/util/Preconditions"), (0, u "SIOOBE_FORMATTER"), (0, u "Ljava/util/function/BiFunction;"), (0, .methodref 1054 1060), (0, .nameAndType 501 1061), (0, u "(IILjava/util/function/BiFunction;)I"), (39, u "serialPersistentFields"), (0, u "[Ljava/io/ObjectStreamField;"), (0, .class_ 1104), (0, u "java/lang/String$CaseInsensitiveComparator"), (1, .class_ 1107), (0, u "java/io/Serializable"), (0, .class_ 1109), (0, u "java/lang/Comparable"), (0, .class_ 1111), (0, u "java/lang/constant/Constable"), (0, .class_ 1113), (0, u "java/lang/constant/ConstantDesc"), (2, u "serialVersionUID"), (0, u "J"), (3, u "REPL"), (0, u "C"), (2, u "LATIN1"), (1, u "UTF16"), (105, u "(Ljava/lang/StringBuilder;)V")] 217

def k7m0 : Method := { name := "<init>", desc := "()V", sig := { parameters := [], returnType := none }, accessFlags := 1, code := none }
def k7c1 : Code := { maxStack := 5, maxLocals := 2, code := jdk_42_method_3_code, exceptionTable := #[], attributes := #[] }
def k7m1 : Method := { name := "<init>", desc := "([C)V", sig := { parameters := [(.array .char)], returnType := none }, accessFlags := 1, code := some k7c1 }
def k7c2 : Code := { maxStack := 3, maxLocals := 2, code := jdk_42_method_53_code, exceptionTable := #[], attributes := #[] }
def k7m2 : Method := { name := "<init>", desc := "(Ljava/lang/StringBuilder;)V", sig := { parameters := [(.object "java/lang/StringBuilder")], returnType := none }, accessFlags := 1, code := some k7c2 }
def k7c3 : Code := { maxStack := 2, maxLocals := 1, code := jdk_42_method_54_code, exceptionTable := #[], attributes := #[] }
def k7m3 : Method := { name := "length", desc := "()I", sig := { parameters := [], returnType := some .int }, accessFlags := 1, code := some k7c3 }
def k7c4 : Code := { maxStack := 1, maxLocals := 1, code := jdk_42_method_55_code, exceptionTable := #[], attributes := #[] }
def k7m4 : Method := { name := "isEmpty", desc := "()Z", sig := { parameters := [], returnType := some .boolean }, accessFlags := 1, code := some k7c4 }
def k7c5 : Code := { maxStack := 2, maxLocals := 2, code := jdk_42_method_56_code, exceptionTable := #[], attributes := #[] }
def k7m5 : Method := { name := "charAt", desc := "(I)C", sig := { parameters := [.int], returnType := some .char }, accessFlags := 1, code := some k7c5 }
def k7c6 : Code := { maxStack := 2, maxLocals := 3, code := jdk_42_method_66_code, exceptionTable := #[], attributes := #[] }
def k7m6 : Method := { name := "equals", desc := "(Ljava/lang/Object;)Z", sig := { parameters := [(.object "java/lang/Object")], returnType := some .boolean }, accessFlags := 1, code := some k7c6 }
def k7c7 : Code := { maxStack := 3, maxLocals := 2, code := jdk_42_method_79_code, exceptionTable := #[], attributes := #[] }
def k7m7 : Method := { name := "indexOf", desc := "(I)I", sig := { parameters := [.int], returnType := some .int }, accessFlags := 1, code := some k7c7 }
def k7c8 : Code := { maxStack := 4, maxLocals := 3, code := jdk_42_method_80_code, exceptionTable := #[], attributes := #[] }
def k7m8 : Method := { name := "indexOf", desc := "(II)I", sig := { parameters := [.int, .int], returnType := some .int }, accessFlags := 1, code := some k7c8 }
def k7c9 : Code := { maxStack := 5, maxLocals := 4, code := jdk_42_method_147_code, exceptionTable := #[], attributes := #[] }
def k7m9 : Method := { name := "getBytes", desc := "([BIB)V", sig := { parameters := [(.array .byte), .int, .byte], returnType := none }, accessFlags := 0, code := some k7c9 }
def k7c10 : Code := { maxStack := 4, maxLocals := 6, code := jdk_42_method_149_code, exceptionTable := #[], attributes := #[] }
def k7m10 : Method := { name := "<init>", desc := "([CIILjava/lang/Void;)V", sig := { parameters := [(.array .char), .int, .int, (.object "java/lang/Void")], returnType := none }, accessFlags := 2, code := some k7c10 }
def k7c11 : Code := { maxStack := 5, maxLocals := 5, code := jdk_42_method_150_code, exceptionTable := #[], attributes := #[] }
def k7m11 : Method := { name := "<init>", desc := "(Ljava/lang/AbstractStringBuilder;Ljava/lang/Void;)V", sig := { parameters := [(.object "java/lang/AbstractStringBuilder"), (.object "java/lang/Void")], returnType := none }, accessFlags := 0, code := some k7c11 }
def k7c12 : Code := { maxStack := 1, maxLocals := 1, code := jdk_42_method_152_code, exceptionTable := #[], attributes := #[] }
def k7m12 : Method := { name := "coder", desc := "()B", sig := { parameters := [], returnType := some .byte }, accessFlags := 0, code := some k7c12 }
def k7c13 : Code := { maxStack := 1, maxLocals := 1, code := jdk_42_method_154_code, exceptionTable := #[], attributes := #[] }
def k7m13 : Method := { name := "isLatin1", desc := "()Z", sig := { parameters := [], returnType := some .boolean }, accessFlags := 0, code := some k7c13 }
def k7c14 : Code := { maxStack := 3, maxLocals := 2, code := jdk_42_method_155_code, exceptionTable := #[], attributes := #[] }
def k7m14 : Method := { name := "checkIndex", desc := "(II)V", sig := { parameters := [.int, .int], returnType := none }, accessFlags := 8, code := some k7c14 }
/-- java/lang/String -/
def k7 : Class := { plain "java/lang/String" (some 0) with
  accessFlags := 49
  interfaces := #[2, 3, 4, 5, 6]
  cf := some (fileOf pool7 10 #[.nestMembers #[1103]] #[{ accessFlags := 1, nameIndex := 5, descriptorIndex := 6, attributes := #[] }, { accessFlags := 1, nameIndex := 5, descriptorIndex := 1010, attributes := #[] }, { accessFlags := 1, nameIndex := 5, descriptorIndex := 1233, attributes := #[] }, { accessFlags := 1, nameIndex := 507, descriptorIndex := 334, attributes := #[] }, { accessFlags := 1, nameIndex := 692, descriptorIndex := 142, attributes := #[] }, { accessFlags := 1, nameIndex := 497, descriptorIndex := 427, attributes := #[] }, { accessFlags := 1, nameIndex := 543, descriptorIndex := 573, attributes := #[] }, { accessFlags := 1, nameIndex := 635, descriptorIndex := 765, attributes := #[] }, { accessFlags := 1, nameIndex := 635, descriptorIndex := 636, attributes := #[] }, { accessFlags := 0, nameIndex := 532, descriptorIndex := 821, attributes := #[] }, { accessFlags := 2, nameIndex := 5, descriptorIndex := 29, attributes := #[] }, { accessFlags := 0, nameIndex := 5, descriptorIndex := 491, attributes := #[] }, { accessFlags := 0, nameIndex := 17, descriptorIndex := 337, attributes := #[] }, { accessFlags := 0, nameIndex := 494, descriptorIndex := 142, attributes := #[] }, { accessFlags := 8, nameIndex := 501, descriptorIndex := 391, attributes := #[] }] 49 2 #[1106, 1108, 575, 1110, 1112] #[{ accessFlags := 18, nameIndex := 13, descriptorIndex := 14, attributes := #[] }, { accessFlags := 18, nameIndex := 17, descriptorIndex := 18, attributes := #[] }, { accessFlags := 2, nameIndex := 21, descriptorIndex := 22, attributes := #[] }, { accessFlags := 2, nameIndex := 25, descriptorIndex := 26, attributes := #[] }, { accessFlags := 26, nameIndex := 1116, descriptorIndex := 1117, attributes := #[] }, { accessFlags := 24, nameIndex := 40, descriptorIndex := 26, attributes := #[] }, { accessFlags := 26, nameIndex := 1101, descriptorIndex := 1102, attributes := #[] }, { accessFlags := 26, nameIndex := 1121, descriptorIndex := 1122, attributes := #[] }, { accessFlags := 25, nameIndex := 599, descriptorIndex := 600, attributes := #[] }, { accessFlags := 24, nameIndex := 1125, descriptorIndex := 18, attributes := #[] }, { accessFlags := 24, nameIndex := 1127, descriptorIndex := 18, attributes := #[] }])
  fields := #[{ name := "value", type := (.array .byte), accessFlags := 18, slot := 0, constantValue := 0 }, { name := "coder", type := .byte, accessFlags := 18, slot := 1, constantValue := 0 }, { name := "hash", type := .int, accessFlags := 2, slot := 2, constantValue := 0 }, { name := "hashIsZero", type := .boolean, accessFlags := 2, slot := 3, constantValue := 0 }, { name := "serialVersionUID", type := .long, accessFlags := 26, slot := 0, constantValue := 0 }, { name := "COMPACT_STRINGS", type := .boolean, accessFlags := 24, slot := 1, constantValue := 0 }, { name := "serialPersistentFields", type := (.array (.object "java/io/ObjectStreamField")), accessFlags := 26, slot := 2, constantValue := 0 }, { name := "REPL", type := .char, accessFlags := 26, slot := 3, constantValue := 0 }, { name := "CASE_INSENSITIVE_ORDER", type := (.object "java/util/Comparator"), accessFlags := 25, slot := 4, constantValue := 0 }, { name := "LATIN1", type := .byte, accessFlags := 24, slot := 5, constantValue := 0 }, { name := "UTF16", type := .byte, accessFlags := 24, slot := 6, constantValue := 0 }]
  methods := #[k7m0, k7m1, k7m2, k7m3, k7m4, k7m5, k7m6, k7m7, k7m8, k7m9, k7m10, k7m11, k7m12, k7m13, k7m14]
  instanceTypes := #[(.array .byte), .byte, .int, .boolean]
  staticTypes := #[.long, .boolean, (.array (.object "java/io/ObjectStreamField")), .char, (.object "java/util/Comparator"), .byte, .byte]
  resolved := Array.replicate 1451 none
  statics := some 0 }

def pool8 : Array CpInfo := pool [(6, .class_ 8), (1, u "java/lang/Object"), (0, u "<init>"), (0, u "()V"), (1, .class_ 14), (1, u "java/lang/StringUTF16"), (31, u "$assertionsDisabled"), (0, u "Z"), (13, u "HI_BYTE_SHIFT"), (0, u "I"), (2, u "LO_BYTE_SHIFT"), (49, .methodref 12 116), (0, .nameAndType 117 118), (0, u "compress"), (0, u "([CI[BII)I"), (3, u "([CII)[B"), (138, u "coderFromArrayLen"), (0, u "([BI)B"), (106, .class_ 371), (1, u "java/lang/StringUTF16$LinesSpliterator"), (58, u "MAX_LENGTH"), (196, .class_ 628), (0, u "java/lang/StringUTF16$CodePointsSpliterator"), (0, .class_ 630), (0, u "java/lang/StringUTF16$CharsSpliterator")] 4

def k8m0 : Method := { name := "<init>", desc := "()V", sig := { parameters := [], returnType := none }, accessFlags := 0, code := none }
def k8c1 : Code := { maxStack := 2, maxLocals := 2, code := jdk_52_method_15_code, exceptionTable := #[], attributes := #[] }
def k8m1 : Method := { name := "coderFromArrayLen", desc := "([BI)B", sig := { parameters := [(.array .byte), .int], returnType := some .byte }, accessFlags := 8, code := some k8c1 }
def k8c2 : Code := { maxStack := 5, maxLocals := 6, code := jdk_52_method_16_code, exceptionTable := #[], attributes := #[] }
def k8m2 : Method := { name := "compress", desc := "([CII)[B", sig := { parameters := [(.array .char), .int, .int], returnType := some (.array .byte) }, accessFlags := 9, code := some k8c2 }
def k8c3 : Code := { maxStack := 3, maxLocals := 7, code := jdk_52_method_21_code, exceptionTable := #[], attributes := #[] }
def k8m3 : Method := { name := "compress", desc := "([CI[BII)I", sig := { parameters := [(.array .char), .int, (.array .byte), .int, .int], returnType := some .int }, accessFlags := 9, code := some k8c3 }
/-- java/lang/StringUTF16 -/
def k8 : Class := { plain "java/lang/StringUTF16" (some 0) with
  accessFlags := 48
  interfaces := #[]
  cf := some (fileOf pool8 12 #[.nestMembers #[627, 629, 369]] #[{ accessFlags := 0, nameIndex := 9, descriptorIndex := 10, attributes := #[] }, { accessFlags := 8, nameIndex := 261, descriptorIndex := 262, attributes := #[] }, { accessFlags := 9, nameIndex := 117, descriptorIndex := 122, attributes := #[] }, { accessFlags := 9, nameIndex := 117, descriptorIndex := 118, attributes := #[] }] 48 6 #[] #[{ accessFlags := 26, nameIndex := 61, descriptorIndex := 62, attributes := #[] }, { accessFlags := 26, nameIndex := 65, descriptorIndex := 62, attributes := #[] }, { accessFlags := 24, nameIndex := 430, descriptorIndex := 62, attributes := #[] }, { accessFlags := 4120, nameIndex := 46, descriptorIndex := 47, attributes := #[] }])
  fields := #[{ name := "HI_BYTE_SHIFT", type := .int, accessFlags := 26, slot := 0, constantValue := 0 }, { name := "LO_BYTE_SHIFT", type := .int, accessFlags := 26, slot := 1, constantValue := 0 }, { name := "MAX_LENGTH", type := .int, accessFlags := 24, slot := 2, constantValue := 0 }, { name := "$assertionsDisabled", type := .boolean, accessFlags := 4120, slot := 3, constantValue := 0 }]
  methods := #[k8m0, k8m1, k8m2, k8m3]
  instanceTypes := #[]
  staticTypes := #[.int, .int, .int, .boolean]
  resolved := Array.replicate 635 none
  statics := none }

def pool9 : Array CpInfo := pool [(1, .methodref 2 3), (0, .class_ 4), (0, .nameAndType 5 6), (0, u "java/lang/Object"), (0, u "<init>"), (0, u "()V"), (0, .fieldref 8 9), (0, .class_ 10), (0, .nameAndType 11 12), (0, u "com/example/ortigia/ortigia/LockKeys"), (0, u "name"), (0, u "Ljava/lang/String;"), (0, .string 11), (0, .methodref 15 16), (0, .class_ 17), (0, .nameAndType 18 19), (0, u "java/util/Objects"), (0, u "requireNonNull"), (0, u "(Ljava/lang/Object;Ljava/lang/String;)Ljava/lang/Object;"), (0, .methodref 21 22), (0, .class_ 23), (0, .nameAndType 24 25), (0, u "java/lang/String"), (0, u "isEmpty"), (0, u "()Z"), (5, .nameAndType 5 32), (0, u "(Ljava/lang/String;)V"), (0, .methodref 21 34), (0, .nameAndType 35 36), (0, u "indexOf"), (0, u "(I)I"), (0, .class_ 38), (0, u "java/lang/StringBuilder"), (0, .methodref 37 3), (2, .methodref 37 43), (0, .nameAndType 44 45), (0, u "append"), (0, u "(Ljava/lang/String;)Ljava/lang/StringBuilder;"), (0, .methodref 37 47), (0, .nameAndType 48 49), (0, u "toString"), (0, u "()Ljava/lang/String;"), (0, .methodref 8 31), (0, .string 52), (0, u "fence"), (0, .methodref 8 54), (0, .nameAndType 55 56), (0, u "hashTagged"), (0, u "(Ljava/lang/String;)Ljava/lang/String;"), (0, .string 58), (0, u "released"), (0, .string 60), (0, u "waiters"), (0, .string 62), (0, u "{"), (0, .string 64), (0, u "}:"), (2, u "of"), (0, u "(Ljava/lang/String;)Lcom/example/ortigia/ortigia/LockKeys;"), (1, u "lockKey"), (0, u "fenceKey"), (0, u "releasedChannel"), (0, u "waitersKey")] 2

def k9c0 : Code := { maxStack := 2, maxLocals := 2, code := prog_4_method_1_code, exceptionTable := #[], attributes := #[] }
def k9m0 : Method := { name := "<init>", desc := "(Ljava/lang/String;)V", sig := { parameters := [(.object "java/lang/String")], returnType := none }, accessFlags := 2, code := some k9c0 }
def k9c1 : Code := { maxStack := 4, maxLocals := 1, code := prog_4_method_2_code, exceptionTable := #[], attributes := #[] }
def k9m1 : Method := { name := "of", desc := "(Ljava/lang/String;)Lcom/example/ortigia/ortigia/LockKeys;", sig := { parameters := [(.object "java/lang/String")], returnType := some (.object "com/example/ortigia/ortigia/LockKeys") }, accessFlags := 8, code := some k9c1 }
def k9c2 : Code := { maxStack := 1, maxLocals := 1, code := prog_4_method_3_code, exceptionTable := #[], attributes := #[] }
def k9m2 : Method := { name := "lockKey", desc := "()Ljava/lang/String;", sig := { parameters := [], returnType := some (.object "java/lang/String") }, accessFlags := 0, code := some k9c2 }
def k9c3 : Code := { maxStack := 2, maxLocals := 1, code := prog_4_method_4_code, exceptionTable := #[], attributes := #[] }
def k9m3 : Method := { name := "fenceKey", desc := "()Ljava/lang/String;", sig := { parameters := [], returnType := some (.object "java/lang/String") }, accessFlags := 0, code := some k9c3 }
def k9c4 : Code := { maxStack := 2, maxLocals := 1, code := prog_4_method_5_code, exceptionTable := #[], attributes := #[] }
def k9m4 : Method := { name := "releasedChannel", desc := "()Ljava/lang/String;", sig := { parameters := [], returnType := some (.object "java/lang/String") }, accessFlags := 0, code := some k9c4 }
def k9c5 : Code := { maxStack := 2, maxLocals := 1, code := prog_4_method_6_code, exceptionTable := #[], attributes := #[] }
def k9m5 : Method := { name := "waitersKey", desc := "()Ljava/lang/String;", sig := { parameters := [], returnType := some (.object "java/lang/String") }, accessFlags := 0, code := some k9c5 }
def k9c6 : Code := { maxStack := 2, maxLocals := 2, code := prog_4_method_7_code, exceptionTable := #[], attributes := #[] }
def k9m6 : Method := { name := "hashTagged", desc := "(Ljava/lang/String;)Ljava/lang/String;", sig := { parameters := [(.object "java/lang/String")], returnType := some (.object "java/lang/String") }, accessFlags := 2, code := some k9c6 }
/-- com/example/ortigia/ortigia/LockKeys -/
def k9 : Class := { plain "com/example/ortigia/ortigia/LockKeys" (some 0) with
  accessFlags := 48
  interfaces := #[]
  cf := some (fileOf pool9 8 #[] #[{ accessFlags := 2, nameIndex := 5, descriptorIndex := 32, attributes := #[] }, { accessFlags := 8, nameIndex := 67, descriptorIndex := 68, attributes := #[] }, { accessFlags := 0, nameIndex := 70, descriptorIndex := 49, attributes := #[] }, { accessFlags := 0, nameIndex := 71, descriptorIndex := 49, attributes := #[] }, { accessFlags := 0, nameIndex := 72, descriptorIndex := 49, attributes := #[] }, { accessFlags := 0, nameIndex := 73, descriptorIndex := 49, attributes := #[] }, { accessFlags := 2, nameIndex := 55, descriptorIndex := 56, attributes := #[] }] 48 2 #[] #[{ accessFlags := 18, nameIndex := 11, descriptorIndex := 12, attributes := #[] }])
  fields := #[{ name := "name", type := (.object "java/lang/String"), accessFlags := 18, slot := 0, constantValue := 0 }]
  methods := #[k9m0, k9m1, k9m2, k9m3, k9m4, k9m5, k9m6]
  instanceTypes := #[(.object "java/lang/String")]
  staticTypes := #[]
  resolved := Array.replicate 76 none
  statics := none }

def pool10 : Array CpInfo := pool [(2, .class_ 4), (1, u "java/lang/Object"), (0, u "<init>"), (0, u "()V"), (35, .class_ 44), (1, u "java/util/Objects"), (0, u "requireNonNull"), (48, u "(Ljava/lang/Object;Ljava/lang/String;)Ljava/lang/Object;")] 89

def k10m0 : Method := { name := "<init>", desc := "()V", sig := { parameters := [], returnType := none }, accessFlags := 2, code := none }
def k10c1 : Code := { maxStack := 3, maxLocals := 2, code := jdk_31_method_11_code, exceptionTable := #[], attributes := #[] }
def k10m1 : Method := { name := "requireNonNull", desc := "(Ljava/lang/Object;Ljava/lang/String;)Ljava/lang/Object;", sig := { parameters := [(.object "java/lang/Object"), (.object "java/lang/String")], returnType := some (.object "java/lang/Object") }, accessFlags := 9, code := some k10c1 }
/-- java/util/Objects -/
def k10 : Class := { plain "java/util/Objects" (some 0) with
  accessFlags := 49
  interfaces := #[]
  cf := some (fileOf pool10 42 #[] #[{ accessFlags := 2, nameIndex := 5, descriptorIndex := 6, attributes := #[] }, { accessFlags := 9, nameIndex := 45, descriptorIndex := 94, attributes := #[] }] 49 2 #[] #[])
  fields := #[]
  methods := #[k10m0, k10m1]
  instanceTypes := #[]
  staticTypes := #[]
  resolved := Array.replicate 184 none
  statics := none }

def pool11 : Array CpInfo := pool [(1, .class_ 2), (0, u "java/lang/String"), (1, .class_ 6), (1, u "java/lang/Object"), (0, u "<init>"), (0, u "()V"), (0, .methodref 1 10), (0, .nameAndType 11 12), (0, u "checkIndex"), (0, u "(II)V"), (1, .class_ 16), (1, u "java/lang/StringLatin1"), (21, .methodref 39 40), (0, .class_ 41), (0, .nameAndType 42 43), (0, u "java/lang/Math"), (0, u "min"), (0, u "(II)I"), (9, u "([BI)C"), (34, .methodref 14 89), (0, .nameAndType 90 91), (0, u "canEncode"), (0, u "(I)Z"), (0, .methodref 39 93), (0, .nameAndType 94 43), (0, u "max"), (0, .methodref 14 96), (0, .nameAndType 97 98), (0, u "indexOfChar"), (0, u "([BIII)I"), (2, u "indexOf"), (19, u "$assertionsDisabled"), (0, u "Z"), (98, .class_ 223), (1, u "java/lang/StringLatin1$LinesSpliterator"), (28, u "charAt"), (28, u "equals"), (0, u "([B[B)Z"), (107, .class_ 391), (0, u "java/lang/StringLatin1$CharsSpliterator")] 3

def k11m0 : Method := { name := "<init>", desc := "()V", sig := { parameters := [], returnType := none }, accessFlags := 0, code := none }
def k11c1 : Code := { maxStack := 2, maxLocals := 2, code := jdk_43_method_2_code, exceptionTable := #[], attributes := #[] }
def k11m1 : Method := { name := "charAt", desc := "([BI)C", sig := { parameters := [(.array .byte), .int], returnType := some .char }, accessFlags := 9, code := some k11c1 }
def k11c2 : Code := { maxStack := 2, maxLocals := 1, code := jdk_43_method_4_code, exceptionTable := #[], attributes := #[] }
def k11m2 : Method := { name := "canEncode", desc := "(I)Z", sig := { parameters := [.int], returnType := some .boolean }, accessFlags := 9, code := some k11c2 }
def k11c3 : Code := { maxStack := 3, maxLocals := 3, code := jdk_43_method_13_code, exceptionTable := #[], attributes := #[] }
def k11m3 : Method := { name := "equals", desc := "([B[B)Z", sig := { parameters := [(.array .byte), (.array .byte)], returnType := some .boolean }, accessFlags := 9, code := some k11c3 }
def k11c4 : Code := { maxStack := 4, maxLocals := 4, code := jdk_43_method_22_code, exceptionTable := #[], attributes := #[] }
def k11m4 : Method := { name := "indexOf", desc := "([BIII)I", sig := { parameters := [(.array .byte), .int, .int, .int], returnType := some .int }, accessFlags := 9, code := some k11c4 }
def k11c5 : Code := { maxStack := 2, maxLocals := 6, code := jdk_43_method_23_code, exceptionTable := #[], attributes := #[] }
def k11m5 : Method := { name := "indexOfChar", desc := "([BIII)I", sig := { parameters := [(.array .byte), .int, .int, .int], returnType := some .int }, accessFlags := 10, code := some k11c5 }
/-- java/lang/StringLatin1 -/
def k11 : Class := { plain "java/lang/StringLatin1" (some 0) with
  accessFlags := 48
  interfaces := #[]
  cf := some (fileOf pool11 14 #[.nestMembers #[390, 221]] #[{ accessFlags := 0, nameIndex := 7, descriptorIndex := 8, attributes := #[] }, { accessFlags := 9, nameIndex := 252, descriptorIndex := 53, attributes := #[] }, { accessFlags := 9, nameIndex := 90, descriptorIndex := 91, attributes := #[] }, { accessFlags := 9, nameIndex := 281, descriptorIndex := 282, attributes := #[] }, { accessFlags := 9, nameIndex := 101, descriptorIndex := 98, attributes := #[] }, { accessFlags := 10, nameIndex := 97, descriptorIndex := 98, attributes := #[] }] 48 4 #[] #[{ accessFlags := 4120, nameIndex := 121, descriptorIndex := 122, attributes := #[] }])
  fields := #[{ name := "$assertionsDisabled", type := .boolean, accessFlags := 4120, slot := 0, constantValue := 0 }]
  methods := #[k11m0, k11m1, k11m2, k11m3, k11m4, k11m5]
  instanceTypes := #[]
  staticTypes := #[.boolean]
  resolved := Array.replicate 395 none
  statics := none }

def pool12 : Array CpInfo := pool [(1, .class_ 2), (0, u "java/lang/Math"), (1, .class_ 6), (1, u "java/lang/Object"), (0, u "<init>"), (0, u "()V"), (89, .class_ 100), (1, u "java/lang/Math$RandomNumberGeneratorHolder"), (71, u "negativeZeroFloatBits"), (0, u "J"), (2, u "negativeZeroDoubleBits"), (21, u "max"), (2, u "min"), (43, u "$assertionsDisabled"), (0, u "Z"), (88, u "(II)I"), (2, u "twoToTheDoubleScaleDown"), (0, u "D"), (4, u "twoToTheDoubleScaleUp"), (9, u "E"), (3, u "PI"), (2, u "TAU"), (2, u "DEGREES_TO_RADIANS"), (0, u "RADIANS_TO_DEGREES")] 94

def k12m0 : Method := { name := "<init>", desc := "()V", sig := { parameters := [], returnType := none }, accessFlags := 2, code := none }
def k12c1 : Code := { maxStack := 2, maxLocals := 2, code := jdk_29_method_65_code, exceptionTable := #[], attributes := #[] }
def k12m1 : Method := { name := "max", desc := "(II)I", sig := { parameters := [.int, .int], returnType := some .int }, accessFlags := 9, code := some k12c1 }
def k12c2 : Code := { maxStack := 2, maxLocals := 2, code := jdk_29_method_69_code, exceptionTable := #[], attributes := #[] }
def k12m2 : Method := { name := "min", desc := "(II)I", sig := { parameters := [.int, .int], returnType := some .int }, accessFlags := 9, code := some k12c2 }
/-- java/lang/Math -/
def k12 : Class := { plain "java/lang/Math" (some 0) with
  accessFlags := 49
  interfaces := #[]
  cf := some (fileOf pool12 1 #[.nestMembers #[98]] #[{ accessFlags := 2, nameIndex := 7, descriptorIndex := 8, attributes := #[] }, { accessFlags := 9, nameIndex := 198, descriptorIndex := 335, attributes := #[] }, { accessFlags := 9, nameIndex := 201, descriptorIndex := 335, attributes := #[] }] 49 4 #[] #[{ accessFlags := 25, nameIndex := 354, descriptorIndex := 339, attributes := #[] }, { accessFlags := 25, nameIndex := 358, descriptorIndex := 339, attributes := #[] }, { accessFlags := 25, nameIndex := 361, descriptorIndex := 339, attributes := #[] }, { accessFlags := 26, nameIndex := 364, descriptorIndex := 339, attributes := #[] }, { accessFlags := 26, nameIndex := 365, descriptorIndex := 339, attributes := #[] }, { accessFlags := 26, nameIndex := 172, descriptorIndex := 173, attributes := #[] }, { accessFlags := 26, nameIndex := 176, descriptorIndex := 173, attributes := #[] }, { accessFlags := 8, nameIndex := 344, descriptorIndex := 339, attributes := #[] }, { accessFlags := 8, nameIndex := 338, descriptorIndex := 339, attributes := #[] }, { accessFlags := 4120, nameIndex := 245, descriptorIndex := 246, attributes := #[] }])
  fields := #[{ name := "E", type := .double, accessFlags := 25, slot := 0, constantValue := 0 }, { name := "PI", type := .double, accessFlags := 25, slot := 1, constantValue := 0 }, { name := "TAU", type := .double, accessFlags := 25, slot := 2, constantValue := 0 }, { name := "DEGREES_TO_RADIANS", type := .double, accessFlags := 26, slot := 3, constantValue := 0 }, { name := "RADIANS_TO_DEGREES", type := .double, accessFlags := 26, slot := 4, constantValue := 0 }, { name := "negativeZeroFloatBits", type := .long, accessFlags := 26, slot := 5, constantValue := 0 }, { name := "negativeZeroDoubleBits", type := .long, accessFlags := 26, slot := 6, constantValue := 0 }, { name := "twoToTheDoubleScaleUp", type := .double, accessFlags := 8, slot := 7, constantValue := 0 }, { name := "twoToTheDoubleScaleDown", type := .double, accessFlags := 8, slot := 8, constantValue := 0 }, { name := "$assertionsDisabled", type := .boolean, accessFlags := 4120, slot := 9, constantValue := 0 }]
  methods := #[k12m0, k12m1, k12m2]
  instanceTypes := #[]
  staticTypes := #[.double, .double, .double, .double, .double, .long, .long, .double, .double, .boolean]
  resolved := Array.replicate 460 none
  statics := none }

def pool13 : Array CpInfo := pool [(2, .class_ 4), (1, u "java/lang/Object"), (0, u "<init>"), (0, u "()V"), (17, .class_ 26), (1, u "jdk/internal/util/Preconditions"), (6, u "checkIndex"), (21, .class_ 56), (0, u "jdk/internal/util/Preconditions$4"), (57, .class_ 115), (0, u "jdk/internal/util/Preconditions$1"), (7, u "SIOOBE_FORMATTER"), (0, u "Ljava/util/function/BiFunction;"), (0, .class_ 126), (0, u "jdk/internal/util/Preconditions$2"), (3, u "AIOOBE_FORMATTER"), (0, .class_ 132), (0, u "jdk/internal/util/Preconditions$3"), (3, u "IOOBE_FORMATTER"), (41, u "(IILjava/util/function/BiFunction;)I")] 15

def k13m0 : Method := { name := "<init>", desc := "()V", sig := { parameters := [], returnType := none }, accessFlags := 1, code := none }
def k13c1 : Code := { maxStack := 3, maxLocals := 3, code := jdk_41_method_11_code, exceptionTable := #[], attributes := #[] }
def k13m1 : Method := { name := "checkIndex", desc := "(IILjava/util/function/BiFunction;)I", sig := { parameters := [.int, .int, (.object "java/util/function/BiFunction")], returnType := some .int }, accessFlags := 9, code := some k13c1 }
/-- jdk/internal/util/Preconditions -/
def k13 : Class := { plain "jdk/internal/util/Preconditions" (some 0) with
  accessFlags := 33
  interfaces := #[]
  cf := some (fileOf pool13 24 #[.nestMembers #[55, 131, 125, 114]] #[{ accessFlags := 1, nameIndex := 5, descriptorIndex := 6, attributes := #[] }, { accessFlags := 9, nameIndex := 33, descriptorIndex := 178, attributes := #[] }] 33 2 #[] #[{ accessFlags := 25, nameIndex := 123, descriptorIndex := 124, attributes := #[] }, { accessFlags := 25, nameIndex := 130, descriptorIndex := 124, attributes := #[] }, { accessFlags := 25, nameIndex := 136, descriptorIndex := 124, attributes := #[] }])
  fields := #[{ name := "SIOOBE_FORMATTER", type := (.object "java/util/function/BiFunction"), accessFlags := 25, slot := 0, constantValue := 0 }, { name := "AIOOBE_FORMATTER", type := (.object "java/util/function/BiFunction"), accessFlags := 25, slot := 1, constantValue := 0 }, { name := "IOOBE_FORMATTER", type := (.object "java/util/function/BiFunction"), accessFlags := 25, slot := 2, constantValue := 0 }]
  methods := #[k13m0, k13m1]
  instanceTypes := #[]
  staticTypes := #[(.object "java/util/function/BiFunction"), (.object "java/util/function/BiFunction"), (.object "java/util/function/BiFunction")]
  resolved := Array.replicate 194 none
  statics := some 1 }

def pool14 : Array CpInfo := pool [(1, .class_ 2), (0, u "java/lang/Appendable"), (0, .class_ 4), (0, u "java/lang/Object")] 9

/-- java/lang/Appendable -/
def k14 : Class := { plain "java/lang/Appendable" (some 0) with
  accessFlags := 1537
  interfaces := #[]
  cf := some (fileOf pool14 1 #[] #[] 1537 3 #[] #[])
  fields := #[]
  methods := #[]
  instanceTypes := #[]
  staticTypes := #[]
  resolved := Array.replicate 14 none
  statics := none }

def pool15 : Array CpInfo := pool [(1, .class_ 2), (0, u "java/lang/String"), (0, .methodref 4 5), (0, .class_ 6), (0, .nameAndType 7 8), (0, u "java/lang/Object"), (0, u "<init>"), (0, u "()V"), (1, .class_ 12), (1, u "java/lang/AbstractStringBuilder"), (0, u "EMPTYVALUE"), (0, u "[B"), (0, .fieldref 10 16), (0, .nameAndType 17 14), (0, u "value"), (0, .fieldref 1 19), (0, .nameAndType 20 21), (0, u "COMPACT_STRINGS"), (0, u "Z"), (0, .fieldref 10 23), (0, .nameAndType 24 25), (0, u "coder"), (0, u "B"), (6, .methodref 1 33), (0, .nameAndType 34 35), (0, u "length"), (0, u "()I"), (4, .methodref 1 41), (0, .nameAndType 24 42), (0, u "()B"), (2, u "append"), (0, u "(Ljava/lang/String;)Ljava/lang/AbstractStringBuilder;"), (1, .class_ 49), (0, u "java/lang/CharSequence"), (19, u "(Ljava/lang/String;)V"), (5, u "maybeLatin1"), (3, .fieldref 10 80), (0, .nameAndType 81 82), (0, u "count"), (0, u "I"), (2, u "isLatin1"), (0, u "()Z"), (13, .methodref 10 101), (0, .nameAndType 102 103), (0, u "ensureCapacityInternal"), (0, u "(I)V"), (104, .methodref 10 209), (0, .nameAndType 210 211), (0, u "putStringAt"), (0, u "(ILjava/lang/String;)V"), (5, u "inflateIfNeededFor"), (2, .nameAndType 221 222), (0, u "getBytes"), (0, u "([BIB)V"), (174, .methodref 10 398), (0, .nameAndType 217 69), (0, .methodref 1 220), (3, u "()[B"), (40, .class_ 445), (0, u "java/lang/Appendable"), (106, u "getValue")] 56

def k15m0 : Method := { name := "<init>", desc := "()V", sig := { parameters := [], returnType := none }, accessFlags := 0, code := none }
def k15c1 : Code := { maxStack := 2, maxLocals := 2, code := jdk_68_method_2_code, exceptionTable := #[], attributes := #[] }
def k15m1 : Method := { name := "<init>", desc := "(I)V", sig := { parameters := [.int], returnType := none }, accessFlags := 0, code := some k15c1 }
def k15c2 : Code := { maxStack := 1, maxLocals := 1, code := jdk_68_method_6_code, exceptionTable := #[], attributes := #[] }
def k15m2 : Method := { name := "length", desc := "()I", sig := { parameters := [], returnType := some .int }, accessFlags := 1, code := some k15c2 }
def k15c3 : Code := { maxStack := 4, maxLocals := 3, code := jdk_68_method_9_code, exceptionTable := #[], attributes := #[] }
def k15m3 : Method := { name := "ensureCapacityInternal", desc := "(I)V", sig := { parameters := [.int], returnType := none }, accessFlags := 2, code := some k15c3 }
def k15c4 : Code := { maxStack := 3, maxLocals := 3, code := jdk_68_method_22_code, exceptionTable := #[], attributes := #[] }
def k15m4 : Method := { name := "append", desc := "(Ljava/lang/String;)Ljava/lang/AbstractStringBuilder;", sig := { parameters := [(.object "java/lang/String")], returnType := some (.object "java/lang/AbstractStringBuilder") }, accessFlags := 1, code := some k15c4 }
def k15c5 : Code := { maxStack := 1, maxLocals := 1, code := jdk_68_method_64_code, exceptionTable := #[], attributes := #[] }
def k15m5 : Method := { name := "getValue", desc := "()[B", sig := { parameters := [], returnType := some (.array .byte) }, accessFlags := 16, code := some k15c5 }
def k15c6 : Code := { maxStack := 1, maxLocals := 1, code := jdk_68_method_68_code, exceptionTable := #[], attributes := #[] }
def k15m6 : Method := { name := "isLatin1", desc := "()Z", sig := { parameters := [], returnType := some .boolean }, accessFlags := 16, code := some k15c6 }
def k15c7 : Code := { maxStack := 2, maxLocals := 2, code := jdk_68_method_71_code, exceptionTable := #[], attributes := #[] }
def k15m7 : Method := { name := "inflateIfNeededFor", desc := "(Ljava/lang/String;)V", sig := { parameters := [(.object "java/lang/String")], returnType := none }, accessFlags := 2, code := some k15c7 }
def k15c8 : Code := { maxStack := 4, maxLocals := 3, code := jdk_68_method_73_code, exceptionTable := #[], attributes := #[] }
def k15m8 : Method := { name := "putStringAt", desc := "(ILjava/lang/String;)V", sig := { parameters := [.int, (.object "java/lang/String")], returnType := none }, accessFlags := 2, code := some k15c8 }
/-- java/lang/AbstractStringBuilder -/
def k15 : Class := { plain "java/lang/AbstractStringBuilder" (some 0) with
  accessFlags := 1056
  interfaces := #[14, 4]
  cf := some (fileOf pool15 10 #[] #[{ accessFlags := 0, nameIndex := 7, descriptorIndex := 8, attributes := #[] }, { accessFlags := 0, nameIndex := 7, descriptorIndex := 103, attributes := #[] }, { accessFlags := 1, nameIndex := 34, descriptorIndex := 35, attributes := #[] }, { accessFlags := 2, nameIndex := 102, descriptorIndex := 103, attributes := #[] }, { accessFlags := 1, nameIndex := 45, descriptorIndex := 46, attributes := #[] }, { accessFlags := 16, nameIndex := 552, descriptorIndex := 403, attributes := #[] }, { accessFlags := 16, nameIndex := 85, descriptorIndex := 86, attributes := #[] }, { accessFlags := 2, nameIndex := 217, descriptorIndex := 69, attributes := #[] }, { accessFlags := 2, nameIndex := 210, descriptorIndex := 211, attributes := #[] }] 1056 4 #[444, 48] #[{ accessFlags := 0, nameIndex := 17, descriptorIndex := 14, attributes := #[] }, { accessFlags := 0, nameIndex := 24, descriptorIndex := 25, attributes := #[] }, { accessFlags := 0, nameIndex := 75, descriptorIndex := 21, attributes := #[] }, { accessFlags := 0, nameIndex := 81, descriptorIndex := 82, attributes := #[] }, { accessFlags := 26, nameIndex := 13, descriptorIndex := 14, attributes := #[] }])
  fields := #[{ name := "value", type := (.array .byte), accessFlags := 0, slot := 0, constantValue := 0 }, { name := "coder", type := .byte, accessFlags := 0, slot := 1, constantValue := 0 }, { name := "maybeLatin1", type := .boolean, accessFlags := 0, slot := 2, constantValue := 0 }, { name := "count", type := .int, accessFlags := 0, slot := 3, constantValue := 0 }, { name := "EMPTYVALUE", type := (.array .byte), accessFlags := 26, slot := 0, constantValue := 0 }]
  methods := #[k15m0, k15m1, k15m2, k15m3, k15m4, k15m5, k15m6, k15m7, k15m8]
  instanceTypes := #[(.array .byte), .byte, .boolean, .int]
  staticTypes := #[(.array .byte)]
  resolved := Array.replicate 609 none
  statics := none }

def pool16 : Array CpInfo := pool [(1, .methodref 2 3), (0, .class_ 4), (0, .nameAndType 5 6), (0, u "java/lang/AbstractStringBuilder"), (0, u "<init>"), (0, u "(I)V"), (11, .class_ 20), (1, u "java/lang/String"), (3, .class_ 26), (1, u "java/lang/StringBuilder"), (0, u "append"), (0, u "(Ljava/lang/String;)Ljava/lang/StringBuilder;"), (0, .methodref 2 30), (0, .nameAndType 27 31), (0, u "(Ljava/lang/String;)Ljava/lang/AbstractStringBuilder;"), (105, .methodref 18 138), (0, .nameAndType 5 139), (0, u "(Ljava/lang/StringBuilder;)V"), (5, u "()V"), (10, u "()I"), (186, .methodref 2 344), (0, .nameAndType 345 156), (0, u "length"), (3, .class_ 350), (0, u "java/lang/Appendable"), (0, .class_ 352), (0, u "java/io/Serializable"), (0, .class_ 354), (0, u "java/lang/Comparable"), (0, .class_ 356), (0, u "java/lang/CharSequence"), (0, u "serialVersionUID"), (0, u "J"), (40, u "toString"), (0, u "()Ljava/lang/String;")] 21

def k16c0 : Code := { maxStack := 2, maxLocals := 1, code := jdk_67_method_1_code, exceptionTable := #[], attributes := #[] }
def k16m0 : Method := { name := "<init>", desc := "()V", sig := { parameters := [], returnType := none }, accessFlags := 1, code := some k16c0 }
def k16c1 : Code := { maxStack := 2, maxLocals := 2, code := jdk_67_method_7_code, exceptionTable := #[], attributes := #[] }
def k16m1 : Method := { name := "append", desc := "(Ljava/lang/String;)Ljava/lang/StringBuilder;", sig := { parameters := [(.object "java/lang/String")], returnType := some (.object "java/lang/StringBuilder") }, accessFlags := 1, code := some k16c1 }
def k16c2 : Code := { maxStack := 3, maxLocals := 1, code := jdk_67_method_42_code, exceptionTable := #[], attributes := #[] }
def k16m2 : Method := { name := "toString", desc := "()Ljava/lang/String;", sig := { parameters := [], returnType := some (.object "java/lang/String") }, accessFlags := 1, code := some k16c2 }
def k16c3 : Code := { maxStack := 1, maxLocals := 1, code := jdk_67_method_93_code, exceptionTable := #[], attributes := #[] }
def k16m3 : Method := { name := "length", desc := "()I", sig := { parameters := [], returnType := some .int }, accessFlags := 4161, code := some k16c3 }
/-- java/lang/StringBuilder -/
def k16 : Class := { plain "java/lang/StringBuilder" (some 15) with
  accessFlags := 49
  interfaces := #[14, 2, 3, 4]
  cf := some (fileOf pool16 24 #[] #[{ accessFlags := 1, nameIndex := 5, descriptorIndex := 145, attributes := #[] }, { accessFlags := 1, nameIndex := 27, descriptorIndex := 28, attributes := #[] }, { accessFlags := 1, nameIndex := 399, descriptorIndex := 400, attributes := #[] }, { accessFlags := 4161, nameIndex := 345, descriptorIndex := 156, attributes := #[] }] 49 2 #[349, 351, 353, 355] #[{ accessFlags := 24, nameIndex := 357, descriptorIndex := 358, attributes := #[] }])
  fields := #[{ name := "serialVersionUID", type := .long, accessFlags := 24, slot := 0, constantValue := 0 }]
  methods := #[k16m0, k16m1, k16m2, k16m3]
  instanceTypes := #[(.array .byte), .byte, .boolean, .int]
  staticTypes := #[.long]
  resolved := Array.replicate 422 none
  statics := none }

def pool17 : Array CpInfo := pool [(2, .class_ 4), (1, u "java/lang/Object"), (0, u "<init>"), (0, u "()V"), (1, .class_ 10), (1, u "java/lang/System"), (0, u "allowSecurityManager"), (0, u "I"), (16, u "cons"), (0, u "Ljava/io/Console;"), (77, .class_ 110), (1, u "java/lang/System$CallersHolder"), (43, u "initialErrStream"), (0, u "Ljava/io/PrintStream;"), (19, u "security"), (0, u "Ljava/lang/SecurityManager;"), (31, .class_ 209), (0, u "java/lang/System$1"), (7, u "props"), (0, u "Ljava/util/Properties;"), (2, u "lineSeparator"), (0, u "Ljava/lang/String;"), (96, .class_ 321), (1, u "java/lang/System$LoggerFinder"), (5, .class_ 328), (0, u "java/lang/System$Logger"), (67, u "err"), (2, u "out"), (91, u "notSupportedJnuEncoding"), (15, u "in"), (17, u "initialIn"), (0, u "Ljava/io/InputStream;"), (35, u "bootLayer"), (0, u "Ljava/lang/ModuleLayer;"), (99, .class_ 664), (0, u "java/lang/System$2"), (9, u "NEVER"), (2, u "MAYBE"), (49, u "arraycopy"), (0, u "(Ljava/lang/Object;ILjava/lang/Object;II)V"), (72, .class_ 802), (0, u "java/lang/System$Logger$Level")] 31

def k17m0 : Method := { name := "<init>", desc := "()V", sig := { parameters := [], returnType := none }, accessFlags := 2, code := none }
def k17m1 : Method := { name := "arraycopy", desc := "(Ljava/lang/Object;ILjava/lang/Object;II)V", sig := { parameters := [(.object "java/lang/Object"), .int, (.object "java/lang/Object"), .int, .int], returnType := none }, accessFlags := 265, code := none }
/-- java/lang/System -/
def k17 : Class := { plain "java/lang/System" (some 0) with
  accessFlags := 49
  interfaces := #[]
  cf := some (fileOf pool17 8 #[.nestMembers #[319, 327, 801, 108, 663, 208]] #[{ accessFlags := 2, nameIndex := 5, descriptorIndex := 6, attributes := #[] }, { accessFlags := 265, nameIndex := 727, descriptorIndex := 728, attributes := #[] }] 49 2 #[] #[{ accessFlags := 25, nameIndex := 507, descriptorIndex := 526, attributes := #[] }, { accessFlags := 25, nameIndex := 399, descriptorIndex := 155, attributes := #[] }, { accessFlags := 25, nameIndex := 396, descriptorIndex := 155, attributes := #[] }, { accessFlags := 10, nameIndex := 525, descriptorIndex := 526, attributes := #[] }, { accessFlags := 26, nameIndex := 674, descriptorIndex := 12, attributes := #[] }, { accessFlags := 26, nameIndex := 677, descriptorIndex := 12, attributes := #[] }, { accessFlags := 10, nameIndex := 11, descriptorIndex := 12, attributes := #[] }, { accessFlags := 74, nameIndex := 175, descriptorIndex := 176, attributes := #[] }, { accessFlags := 10, nameIndex := 491, descriptorIndex := 222, attributes := #[] }, { accessFlags := 74, nameIndex := 29, descriptorIndex := 30, attributes := #[] }, { accessFlags := 74, nameIndex := 154, descriptorIndex := 155, attributes := #[] }, { accessFlags := 10, nameIndex := 217, descriptorIndex := 218, attributes := #[] }, { accessFlags := 10, nameIndex := 221, descriptorIndex := 222, attributes := #[] }, { accessFlags := 8, nameIndex := 562, descriptorIndex := 563, attributes := #[] }])
  fields := #[{ name := "in", type := (.object "java/io/InputStream"), accessFlags := 25, slot := 0, constantValue := 0 }, { name := "out", type := (.object "java/io/PrintStream"), accessFlags := 25, slot := 1, constantValue := 0 }, { name := "err", type := (.object "java/io/PrintStream"), accessFlags := 25, slot := 2, constantValue := 0 }, { name := "initialIn", type := (.object "java/io/InputStream"), accessFlags := 10, slot := 3, constantValue := 0 }, { name := "NEVER", type := .int, accessFlags := 26, slot := 4, constantValue := 0 }, { name := "MAYBE", type := .int, accessFlags := 26, slot := 5, constantValue := 0 }, { name := "allowSecurityManager", type := .int, accessFlags := 10, slot := 6, constantValue := 0 }, { name := "security", type := (.object "java/lang/SecurityManager"), accessFlags := 74, slot := 7, constantValue := 0 }, { name := "notSupportedJnuEncoding", type := (.object "java/lang/String"), accessFlags := 10, slot := 8, constantValue := 0 }, { name := "cons", type := (.object "java/io/Console"), accessFlags := 74, slot := 9, constantValue := 0 }, { name := "initialErrStream", type := (.object "java/io/PrintStream"), accessFlags := 74, slot := 10, constantValue := 0 }, { name := "props", type := (.object "java/util/Properties"), accessFlags := 10, slot := 11, constantValue := 0 }, { name := "lineSeparator", type := (.object "java/lang/String"), accessFlags := 10, slot := 12, constantValue := 0 }, { name := "bootLayer", type := (.object "java/lang/ModuleLayer"), accessFlags := 8, slot := 13, constantValue := 0 }]
  methods := #[k17m0, k17m1]
  instanceTypes := #[]
  staticTypes := #[(.object "java/io/InputStream"), (.object "java/io/PrintStream"), (.object "java/io/PrintStream"), (.object "java/io/InputStream"), .int, .int, .int, (.object "java/lang/SecurityManager"), (.object "java/lang/String"), (.object "java/io/Console"), (.object "java/io/PrintStream"), (.object "java/util/Properties"), (.object "java/lang/String"), (.object "java/lang/ModuleLayer")]
  resolved := Array.replicate 834 none
  statics := none }

def pool18 : Array CpInfo := pool [(2, .class_ 4), (1, u "java/lang/Object"), (0, u "<init>"), (0, u "()V"), (7, .class_ 16), (1, u "java/util/Arrays"), (57, .class_ 76), (1, u "java/util/Arrays$NaturalOrder"), (36, .class_ 115), (1, u "java/util/Arrays$LegacyMergeSort"), (1, u "Z"), (21, u "copyOfRange"), (10, .methodref 151 152), (0, .class_ 153), (0, .nameAndType 154 155), (0, u "java/lang/System"), (0, u "arraycopy"), (0, u "(Ljava/lang/Object;ILjava/lang/Object;II)V"), (148, .methodref 305 306), (0, .class_ 307), (0, .nameAndType 308 309), (0, u "java/lang/Math"), (0, u "min"), (0, u "(II)I"), (29, .methodref 14 340), (0, .nameAndType 341 342), (0, u "copyOfRangeByte"), (0, u "([BII)[B"), (0, .methodref 14 344), (0, .nameAndType 345 346), (0, u "checkLength"), (0, u "(II)V"), (28, .class_ 376), (0, u "java/util/Arrays$ArrayList"), (68, u "$assertionsDisabled"), (269, u "MIN_ARRAY_SORT_GRAN"), (0, u "I"), (2, u "INSERTIONSORT_THRESHOLD"), (255, .class_ 976), (0, u "java/util/Arrays$ArrayItr")] 52

def k18m0 : Method := { name := "<init>", desc := "()V", sig := { parameters := [], returnType := none }, accessFlags := 2, code := none }
def k18c1 : Code := { maxStack := 4, maxLocals := 2, code := jdk_65_method_131_code, exceptionTable := #[], attributes := #[] }
def k18m1 : Method := { name := "checkLength", desc := "(II)V", sig := { parameters := [.int, .int], returnType := none }, accessFlags := 10, code := some k18c1 }
def k18c2 : Code := { maxStack := 3, maxLocals := 3, code := jdk_65_method_132_code, exceptionTable := #[], attributes := #[] }
def k18m2 : Method := { name := "copyOfRange", desc := "([BII)[B", sig := { parameters := [(.array .byte), .int, .int], returnType := some (.array .byte) }, accessFlags := 9, code := some k18c2 }
def k18c3 : Code := { maxStack := 6, maxLocals := 5, code := jdk_65_method_133_code, exceptionTable := #[], attributes := #[] }
def k18m3 : Method := { name := "copyOfRangeByte", desc := "([BII)[B", sig := { parameters := [(.array .byte), .int, .int], returnType := some (.array .byte) }, accessFlags := 10, code := some k18c3 }
/-- java/util/Arrays -/
def k18 : Class := { plain "java/util/Arrays" (some 0) with
  accessFlags := 49
  interfaces := #[]
  cf := some (fileOf pool18 14 #[.nestMembers #[975, 375, 113, 74]] #[{ accessFlags := 2, nameIndex := 5, descriptorIndex := 6, attributes := #[] }, { accessFlags := 10, nameIndex := 345, descriptorIndex := 346, attributes := #[] }, { accessFlags := 9, nameIndex := 139, descriptorIndex := 342, attributes := #[] }, { accessFlags := 10, nameIndex := 341, descriptorIndex := 342, attributes := #[] }] 49 2 #[] #[{ accessFlags := 26, nameIndex := 715, descriptorIndex := 716, attributes := #[] }, { accessFlags := 26, nameIndex := 719, descriptorIndex := 716, attributes := #[] }, { accessFlags := 4120, nameIndex := 445, descriptorIndex := 117, attributes := #[] }])
  fields := #[{ name := "MIN_ARRAY_SORT_GRAN", type := .int, accessFlags := 26, slot := 0, constantValue := 0 }, { name := "INSERTIONSORT_THRESHOLD", type := .int, accessFlags := 26, slot := 1, constantValue := 0 }, { name := "$assertionsDisabled", type := .boolean, accessFlags := 4120, slot := 2, constantValue := 0 }]
  methods := #[k18m0, k18m1, k18m2, k18m3]
  instanceTypes := #[]
  staticTypes := #[.int, .int, .boolean]
  resolved := Array.replicate 1029 none
  statics := none }

def pool19 : Array CpInfo := pool [(9, u "<init>"), (6, .class_ 18), (1, u "java/lang/Object"), (0, u "()V"), (1, .class_ 23), (1, u "jdk/internal/util/ArraysSupport"), (0, u "LOG2_ARRAY_LONG_INDEX_SCALE"), (0, u "I"), (2, u "U"), (0, u "Ljdk/internal/misc/Unsafe;"), (8, u "BIG_ENDIAN"), (0, u "Z"), (8, u "LOG2_BYTE_BIT_SIZE"), (4, u "LOG2_ARRAY_INT_INDEX_SCALE"), (54, u "JLA"), (0, u "Ljdk/internal/access/JavaLangAccess;"), (11, u "LOG2_ARRAY_BOOLEAN_INDEX_SCALE"), (9, u "LOG2_ARRAY_BYTE_INDEX_SCALE"), (5, u "LOG2_ARRAY_CHAR_INDEX_SCALE"), (5, u "LOG2_ARRAY_SHORT_INDEX_SCALE"), (18, u "LOG2_ARRAY_FLOAT_INDEX_SCALE"), (24, u "LOG2_ARRAY_DOUBLE_INDEX_SCALE"), (89, u "T_BOOLEAN"), (2, u "T_CHAR"), (1, u "T_FLOAT"), (1, u "T_DOUBLE"), (1, u "T_BYTE"), (1, u "T_SHORT"), (1, u "T_INT"), (1, u "T_LONG"), (1, u "SOFT_MAX_ARRAY_LENGTH")] 83

def k19m0 : Method := { name := "<init>", desc := "()V", sig := { parameters := [], returnType := none }, accessFlags := 2, code := none }
/-- jdk/internal/util/ArraysSupport -/
def k19 : Class := { plain "jdk/internal/util/ArraysSupport" (some 0) with
  accessFlags := 33
  interfaces := #[]
  cf := some (fileOf pool19 21 #[] #[{ accessFlags := 2, nameIndex := 9, descriptorIndex := 19, attributes := #[] }] 33 16 #[] #[{ accessFlags := 24, nameIndex := 28, descriptorIndex := 29, attributes := #[] }, { accessFlags := 26, nameIndex := 38, descriptorIndex := 39, attributes := #[] }, { accessFlags := 25, nameIndex := 121, descriptorIndex := 25, attributes := #[] }, { accessFlags := 25, nameIndex := 131, descriptorIndex := 25, attributes := #[] }, { accessFlags := 25, nameIndex := 137, descriptorIndex := 25, attributes := #[] }, { accessFlags := 25, nameIndex := 143, descriptorIndex := 25, attributes := #[] }, { accessFlags := 25, nameIndex := 53, descriptorIndex := 25, attributes := #[] }, { accessFlags := 25, nameIndex := 24, descriptorIndex := 25, attributes := #[] }, { accessFlags := 25, nameIndex := 162, descriptorIndex := 25, attributes := #[] }, { accessFlags := 25, nameIndex := 187, descriptorIndex := 25, attributes := #[] }, { accessFlags := 26, nameIndex := 48, descriptorIndex := 25, attributes := #[] }, { accessFlags := 25, nameIndex := 277, descriptorIndex := 25, attributes := #[] }, { accessFlags := 25, nameIndex := 280, descriptorIndex := 25, attributes := #[] }, { accessFlags := 25, nameIndex := 282, descriptorIndex := 25, attributes := #[] }, { accessFlags := 25, nameIndex := 284, descriptorIndex := 25, attributes := #[] }, { accessFlags := 25, nameIndex := 286, descriptorIndex := 25, attributes := #[] }, { accessFlags := 25, nameIndex := 288, descriptorIndex := 25, attributes := #[] }, { accessFlags := 25, nameIndex := 290, descriptorIndex := 25, attributes := #[] }, { accessFlags := 25, nameIndex := 292, descriptorIndex := 25, attributes := #[] }, { accessFlags := 26, nameIndex := 108, descriptorIndex := 109, attributes := #[] }, { accessFlags := 25, nameIndex := 294, descriptorIndex := 25, attributes := #[] }])
  fields := #[{ name := "U", type := (.object "jdk/internal/misc/Unsafe"), accessFlags := 24, slot := 0, constantValue := 0 }, { name := "BIG_ENDIAN", type := .boolean, accessFlags := 26, slot := 1, constantValue := 0 }, { name := "LOG2_ARRAY_BOOLEAN_INDEX_SCALE", type := .int, accessFlags := 25, slot := 2, constantValue := 0 }, { name := "LOG2_ARRAY_BYTE_INDEX_SCALE", type := .int, accessFlags := 25, slot := 3, constantValue := 0 }, { name := "LOG2_ARRAY_CHAR_INDEX_SCALE", type := .int, accessFlags := 25, slot := 4, constantValue := 0 }, { name := "LOG2_ARRAY_SHORT_INDEX_SCALE", type := .int, accessFlags := 25, slot := 5, constantValue := 0 }, { name := "LOG2_ARRAY_INT_INDEX_SCALE", type := .int, accessFlags := 25, slot := 6, constantValue := 0 }, { name := "LOG2_ARRAY_LONG_INDEX_SCALE", type := .int, accessFlags := 25, slot := 7, constantValue := 0 }, { name := "LOG2_ARRAY_FLOAT_INDEX_SCALE", type := .int, accessFlags := 25, slot := 8, constantValue := 0 }, { name := "LOG2_ARRAY_DOUBLE_INDEX_SCALE", type := .int, accessFlags := 25, slot := 9, constantValue := 0 }, { name := "LOG2_BYTE_BIT_SIZE", type := .int, accessFlags := 26, slot := 10, constantValue := 0 }, { name := "T_BOOLEAN", type := .int, accessFlags := 25, slot := 11, constantValue := 0 }, { name := "T_CHAR", type := .int, accessFlags := 25, slot := 12, constantValue := 0 }, { name := "T_FLOAT", type := .int, accessFlags := 25, slot := 13, constantValue := 0 }, { name := "T_DOUBLE", type := .int, accessFlags := 25, slot := 14, constantValue := 0 }, { name := "T_BYTE", type := .int, accessFlags := 25, slot := 15, constantValue := 0 }, { name := "T_SHORT", type := .int, accessFlags := 25, slot := 16, constantValue := 0 }, { name := "T_INT", type := .int, accessFlags := 25, slot := 17, constantValue := 0 }, { name := "T_LONG", type := .int, accessFlags := 25, slot := 18, constantValue := 0 }, { name := "JLA", type := (.object "jdk/internal/access/JavaLangAccess"), accessFlags := 26, slot := 19, constantValue := 0 }, { name := "SOFT_MAX_ARRAY_LENGTH", type := .int, accessFlags := 25, slot := 20, constantValue := 0 }]
  methods := #[k19m0]
  instanceTypes := #[]
  staticTypes := #[(.object "jdk/internal/misc/Unsafe"), .boolean, .int, .int, .int, .int, .int, .int, .int, .int, .int, .int, .int, .int, .int, .int, .int, .int, .int, (.object "jdk/internal/access/JavaLangAccess"), .int]
  resolved := Array.replicate 378 none
  statics := none }

def pool20 : Array CpInfo := pool [(1, u "java/lang/Cloneable"), (0, .class_ 1), (0, u "java/lang/Object"), (0, .class_ 3)] 3

/-- java/lang/Cloneable -/
def k20 : Class := { plain "java/lang/Cloneable" (some 0) with
  accessFlags := 1537
  interfaces := #[]
  cf := some (fileOf pool20 2 #[] #[] 1537 4 #[] #[])
  fields := #[]
  methods := #[]
  instanceTypes := #[]
  staticTypes := #[]
  resolved := Array.replicate 8 none
  statics := none }

/-- the primitive byte -/
def k21 : Class := { plain "byte" none with kind := .primitive 'B', accessFlags := 0x411 }
/-- [B -/
def k22 : Class := { plain "[B" (some 0) with kind := .array 21 .byte, interfaces := #[20, 2], accessFlags := 1041 }

/-- the primitive char -/
def k23 : Class := { plain "char" none with kind := .primitive 'C', accessFlags := 0x411 }
/-- [C -/
def k24 : Class := { plain "[C" (some 0) with kind := .array 23 .char, interfaces := #[20, 2], accessFlags := 1041 }

/-- the primitive int -/
def k25 : Class := { plain "int" none with kind := .primitive 'I', accessFlags := 0x411 }
/-- [I -/
def k26 : Class := { plain "[I" (some 0) with kind := .array 25 .int, interfaces := #[20, 2], accessFlags := 1041 }

def heap : Heap := #[{ cls := 7, slots := #[.long 0, .int 1, .null, .int 0, .null, .int 0, .int 0], vm := .statics 7 },
  { cls := 13, slots := #[.null, .null, .null], vm := .statics 13 }]
def classes : Array Class := #[k0, k1, k2, k3, k4, k5, k6, k7, k8, k9, k10, k11, k12, k13, k14, k15, k16, k17, k18, k19, k20, k21, k22, k23, k24, k25, k26]
def interned : List (Array UInt16 × Addr) := []
def slotsUsed : Nat := 10
def theMethod : MethodId := ⟨1, 1⟩
def args0 : Array Value := #[.int 5, .int 5, .int 5, .int 5, .int 5]
def aboutOver (below : List Frame) : State where
  vm := { classes := classes, interned := interned.toArray }
  heap := heap
  slotsUsed := slotsUsed
  threads := #[{ frames := .invoking theMethod args0 :: below }]
def below0 : List Frame := [.native { method := ⟨0, 0⟩, args := #[] }]
def about1 : State := aboutOver below0
def p0 : Program := .bare "" "" ""
def e0 : Env := launch0.env 0 0 0
theorem w_frames : about1.frames = Frame.invoking theMethod args0 :: below0 := rfl
set_option maxRecDepth 65536 in
theorem w_args : argsFit about1.vm theMethod args0 = true := by decide +kernel
set_option maxRecDepth 65536 in
theorem w_heap : heapFits about1 = true := by decide +kernel
set_option maxRecDepth 65536 in
theorem w_runnable : about1.curStatus? = some .runnable := by decide +kernel
set_option maxRecDepth 65536 in
theorem w_alone : about1.alone = true := by decide +kernel
set_option maxRecDepth 65536 in
theorem w_named : about1.methodNamed? x = some theMethod := by decide +kernel
set_option maxRecDepth 65536 in
theorem w_hears : about1.hears theMethod below0 = true := by decide +kernel
set_option maxRecDepth 65536 in
theorem w_ripe : about1.ripe theMethod args0 below0 = true := by decide +kernel
theorem w_running : about1.status = .running := rfl
set_option maxRecDepth 65536 in
theorem w_room : about1.hasRoom e0.platform room_1 = true :=
  launch0.hasRoom_least _ room_1 (by decide +kernel) (by decide +kernel) (by decide +kernel) (by decide +kernel) (by decide +kernel) (by decide +kernel)
theorem allAtoms_all (ts : List Jvm.Cond) (a : Array Jvm.Value) (st : Jvm.State) : (allAtoms ts).before a st = ts.all (fun c => c.before a st) := by
  induction ts with
  | nil => rfl
  | cons c t ih =>
    show (Jvm.Cond.and c (allAtoms t)).before a st = _
    rw [Jvm.Cond.before_and, ih, List.all_cons]
def words1 : List Jvm.Cond := Jvm.Cond.code x code maxLocals ret :: tables_1
/-- a 'code' word, met by the world's own term for the bytes: nothing is compared byte by byte -/
theorem code_word {y : MethodName} {bytes : ByteArray} {mx : Nat} {rt : Option FieldType} {a : Array Value} {s : State} {m : MethodId} {meth : Method} {c : Code} (h1 : s.methodNamed? y = some m) (h2 : s.vm.method? m = some meth) (h3 : meth.code = some c) (h4 : c.code = bytes)
    (h5 : (c.maxLocals == mx && c.exceptionTable.isEmpty && decide (c.maxStack ≤ mostOperands) && decide (meth.sig.returnType = rt) && !meth.locks && decide (parseMethodDescriptor y.desc = some meth.sig)) = true) : (Jvm.Cond.code y bytes mx rt).before a s = true := by
  simp only [Bool.and_eq_true, beq_iff_eq, Bool.not_eq_true', decide_eq_true_eq] at h5
  obtain ⟨⟨⟨⟨⟨g1, g2⟩, g3⟩, g4⟩, g5⟩, g6⟩ := h5
  simp [Cond.before, Cond.holds, Cond.value, h1, h2, h3, h4, g1, g2, g3, g4, g5, g6]
def isCode : Jvm.Cond → Bool
  | .code _ _ _ _ => true
  | _ => false
theorem all_split {L : List Jvm.Cond} {P : Jvm.Cond → Bool} (h1 : L.all (fun c => isCode c || P c) = true) (h2 : ∀ c ∈ L.filter isCode, P c = true) : L.all P = true := by
  refine List.all_eq_true.mpr fun c hc => ?_
  have h := List.all_eq_true.mp h1 c hc
  rcases Bool.eq_false_or_eq_true (isCode c) with hi | hi
  · exact h2 c (List.mem_filter.mpr ⟨hc, hi⟩)
  · simpa [hi] using h
set_option maxRecDepth 65536 in
theorem w_c0 : (Jvm.Cond.code x code maxLocals ret).before args0 about1 = true := code_word (m := ⟨1, 1⟩) (meth := k1m1) (c := k1c1) (by decide +kernel) rfl rfl rfl (by decide +kernel)
set_option maxRecDepth 65536 in
theorem w_c1 : (Jvm.Cond.code ({ cls := "com/example/ortigia/ortigia/LockKeysOfPinLaw", name := "brace", desc := "(C)Z" } : Jvm.MethodName) method_3_code (1 : Nat) (Option.some Jvm.ClassFile.FieldType.boolean)).before args0 about1 = true := code_word (m := ⟨1, 2⟩) (meth := k1m2) (c := k1c2) (by decide +kernel) rfl rfl rfl (by decide +kernel)
set_option maxRecDepth 65536 in
theorem w_c2 : (Jvm.Cond.code ({ cls := "java/lang/String", name := "<init>", desc := "([C)V" } : Jvm.MethodName) jdk_42_method_3_code (2 : Nat) (Option.none : Option Jvm.ClassFile.FieldType)).before args0 about1 = true := code_word (m := ⟨7, 1⟩) (meth := k7m1) (c := k7c1) (by decide +kernel) rfl rfl rfl (by decide +kernel)
set_option maxRecDepth 65536 in
theorem w_c3 : (Jvm.Cond.code ({ cls := "java/lang/String", name := "<init>", desc := "([CIILjava/lang/Void;)V" } : Jvm.MethodName) jdk_42_method_149_code (6 : Nat) (Option.none : Option Jvm.ClassFile.FieldType)).before args0 about1 = true := code_word (m := ⟨7, 10⟩) (meth := k7m10) (c := k7c10) (by decide +kernel) rfl rfl rfl (by decide +kernel)
set_option maxRecDepth 65536 in
theorem w_c4 : (Jvm.Cond.code ({ cls := "java/lang/Object", name := "<init>", desc := "()V" } : Jvm.MethodName) object_method_1_code (1 : Nat) (Option.none : Option Jvm.ClassFile.FieldType)).before args0 about1 = true := code_word (m := ⟨0, 0⟩) (meth := k0m0) (c := k0c0) (by decide +kernel) rfl rfl rfl (by decide +kernel)
set_option maxRecDepth 65536 in
theorem w_c5 : (Jvm.Cond.code ({ cls := "java/lang/StringUTF16", name := "compress", desc := "([CII)[B" } : Jvm.MethodName) jdk_52_method_16_code (6 : Nat) (Option.some (Jvm.ClassFile.FieldType.array Jvm.ClassFile.FieldType.byte))).before args0 about1 = true := code_word (m := ⟨8, 2⟩) (meth := k8m2) (c := k8c2) (by decide +kernel) rfl rfl rfl (by decide +kernel)
set_option maxRecDepth 65536 in
theorem w_c6 : (Jvm.Cond.code ({ cls := "java/lang/StringUTF16", name := "compress", desc := "([CI[BII)I" } : Jvm.MethodName) jdk_52_method_21_code (7 : Nat) (Option.some Jvm.ClassFile.FieldType.int)).before args0 about1 = true := code_word (m := ⟨8, 3⟩) (meth := k8m3) (c := k8c3) (by decide +kernel) rfl rfl rfl (by decide +kernel)
set_option maxRecDepth 65536 in
theorem w_c7 : (Jvm.Cond.code ({ cls := "java/lang/StringUTF16", name := "coderFromArrayLen", desc := "([BI)B" } : Jvm.MethodName) jdk_52_method_15_code (2 : Nat) (Option.some Jvm.ClassFile.FieldType.byte)).before args0 about1 = true := code_word (m := ⟨8, 1⟩) (meth := k8m1) (c := k8c1) (by decide +kernel) rfl rfl rfl (by decide +kernel)
set_option maxRecDepth 65536 in
theorem w_c8 : (Jvm.Cond.code ({ cls := "com/example/ortigia/ortigia/LockKeys", name := "of", desc := "(Ljava/lang/String;)Lcom/example/ortigia/ortigia/LockKeys;" } : Jvm.MethodName) prog_4_method_2_code (1 : Nat) (Option.some (Jvm.ClassFile.FieldType.object "com/example/ortigia/ortigia/LockKeys"))).before args0 about1 = true := code_word (m := ⟨9, 1⟩) (meth := k9m1) (c := k9c1) (by decide +kernel) rfl rfl rfl (by decide +kernel)
set_option maxRecDepth 65536 in
theorem w_c9 : (Jvm.Cond.code ({ cls := "java/util/Objects", name := "requireNonNull", desc := "(Ljava/lang/Object;Ljava/lang/String;)Ljava/lang/Object;" } : Jvm.MethodName) jdk_31_method_11_code (2 : Nat) (Option.some (Jvm.ClassFile.FieldType.object "java/lang/Object"))).before args0 about1 = true := code_word (m := ⟨10, 1⟩) (meth := k10m1) (c := k10c1) (by decide +kernel) rfl rfl rfl (by decide +kernel)
set_option maxRecDepth 65536 in
theorem w_c10 : (Jvm.Cond.code ({ cls := "java/lang/String", name := "isEmpty", desc := "()Z" } : Jvm.MethodName) jdk_42_method_55_code (1 : Nat) (Option.some Jvm.ClassFile.FieldType.boolean)).before args0 about1 = true := code_word (m := ⟨7, 4⟩) (meth := k7m4) (c := k7c4) (by decide +kernel) rfl rfl rfl (by decide +kernel)
set_option maxRecDepth 65536 in
theorem w_c11 : (Jvm.Cond.code ({ cls := "java/lang/String", name := "indexOf", desc := "(I)I" } : Jvm.MethodName) jdk_42_method_79_code (2 : Nat) (Option.some Jvm.ClassFile.FieldType.int)).before args0 about1 = true := code_word (m := ⟨7, 7⟩) (meth := k7m7) (c := k7c7) (by decide +kernel) rfl rfl rfl (by decide +kernel)
set_option maxRecDepth 65536 in
theorem w_c12 : (Jvm.Cond.code ({ cls := "java/lang/String", name := "indexOf", desc := "(II)I" } : Jvm.MethodName) jdk_42_method_80_code (3 : Nat) (Option.some Jvm.ClassFile.FieldType.int)).before args0 about1 = true := code_word (m := ⟨7, 8⟩) (meth := k7m8) (c := k7c8) (by decide +kernel) rfl rfl rfl (by decide +kernel)
set_option maxRecDepth 65536 in
theorem w_c13 : (Jvm.Cond.code ({ cls := "java/lang/String", name := "isLatin1", desc := "()Z" } : Jvm.MethodName) jdk_42_method_154_code (1 : Nat) (Option.some Jvm.ClassFile.FieldType.boolean)).before args0 about1 = true := code_word (m := ⟨7, 13⟩) (meth := k7m13) (c := k7c13) (by decide +kernel) rfl rfl rfl (by decide +kernel)
set_option maxRecDepth 65536 in
theorem w_c14 : (Jvm.Cond.code ({ cls := "java/lang/String", name := "length", desc := "()I" } : Jvm.MethodName) jdk_42_method_54_code (1 : Nat) (Option.some Jvm.ClassFile.FieldType.int)).before args0 about1 = true := code_word (m := ⟨7, 3⟩) (meth := k7m3) (c := k7c3) (by decide +kernel) rfl rfl rfl (by decide +kernel)
set_option maxRecDepth 65536 in
theorem w_c15 : (Jvm.Cond.code ({ cls := "java/lang/String", name := "coder", desc := "()B" } : Jvm.MethodName) jdk_42_method_152_code (1 : Nat) (Option.some Jvm.ClassFile.FieldType.byte)).before args0 about1 = true := code_word (m := ⟨7, 12⟩) (meth := k7m12) (c := k7c12) (by decide +kernel) rfl rfl rfl (by decide +kernel)
set_option maxRecDepth 65536 in
theorem w_c16 : (Jvm.Cond.code ({ cls := "java/lang/StringLatin1", name := "indexOf", desc := "([BIII)I" } : Jvm.MethodName) jdk_43_method_22_code (4 : Nat) (Option.some Jvm.ClassFile.FieldType.int)).before args0 about1 = true := code_word (m := ⟨11, 4⟩) (meth := k11m4) (c := k11c4) (by decide +kernel) rfl rfl rfl (by decide +kernel)
set_option maxRecDepth 65536 in
theorem w_c17 : (Jvm.Cond.code ({ cls := "java/lang/StringLatin1", name := "canEncode", desc := "(I)Z" } : Jvm.MethodName) jdk_43_method_4_code (1 : Nat) (Option.some Jvm.ClassFile.FieldType.boolean)).before args0 about1 = true := code_word (m := ⟨11, 2⟩) (meth := k11m2) (c := k11c2) (by decide +kernel) rfl rfl rfl (by decide +kernel)
set_option maxRecDepth 65536 in
theorem w_c18 : (Jvm.Cond.code ({ cls := "java/lang/Math", name := "max", desc := "(II)I" } : Jvm.MethodName) jdk_29_method_65_code (2 : Nat) (Option.some Jvm.ClassFile.FieldType.int)).before args0 about1 = true := code_word (m := ⟨12, 1⟩) (meth := k12m1) (c := k12c1) (by decide +kernel) rfl rfl rfl (by decide +kernel)
set_option maxRecDepth 65536 in
theorem w_c19 : (Jvm.Cond.code ({ cls := "java/lang/Math", name := "min", desc := "(II)I" } : Jvm.MethodName) jdk_29_method_69_code (2 : Nat) (Option.some Jvm.ClassFile.FieldType.int)).before args0 about1 = true := code_word (m := ⟨12, 2⟩) (meth := k12m2) (c := k12c2) (by decide +kernel) rfl rfl rfl (by decide +kernel)
set_option maxRecDepth 65536 in
theorem w_c20 : (Jvm.Cond.code ({ cls := "java/lang/StringLatin1", name := "indexOfChar", desc := "([BIII)I" } : Jvm.MethodName) jdk_43_method_23_code (6 : Nat) (Option.some Jvm.ClassFile.FieldType.int)).before args0 about1 = true := code_word (m := ⟨11, 5⟩) (meth := k11m5) (c := k11c5) (by decide +kernel) rfl rfl rfl (by decide +kernel)
set_option maxRecDepth 65536 in
theorem w_c21 : (Jvm.Cond.code ({ cls := "com/example/ortigia/ortigia/LockKeys", name := "<init>", desc := "(Ljava/lang/String;)V" } : Jvm.MethodName) prog_4_method_1_code (2 : Nat) (Option.none : Option Jvm.ClassFile.FieldType)).before args0 about1 = true := code_word (m := ⟨9, 0⟩) (meth := k9m0) (c := k9c0) (by decide +kernel) rfl rfl rfl (by decide +kernel)
set_option maxRecDepth 65536 in
theorem w_c22 : (Jvm.Cond.code ({ cls := "com/example/ortigia/ortigia/LockKeys", name := "lockKey", desc := "()Ljava/lang/String;" } : Jvm.MethodName) prog_4_method_3_code (1 : Nat) (Option.some (Jvm.ClassFile.FieldType.object "java/lang/String"))).before args0 about1 = true := code_word (m := ⟨9, 2⟩) (meth := k9m2) (c := k9c2) (by decide +kernel) rfl rfl rfl (by decide +kernel)
set_option maxRecDepth 65536 in
theorem w_c23 : (Jvm.Cond.code ({ cls := "java/lang/String", name := "equals", desc := "(Ljava/lang/Object;)Z" } : Jvm.MethodName) jdk_42_method_66_code (3 : Nat) (Option.some Jvm.ClassFile.FieldType.boolean)).before args0 about1 = true := code_word (m := ⟨7, 6⟩) (meth := k7m6) (c := k7c6) (by decide +kernel) rfl rfl rfl (by decide +kernel)
set_option maxRecDepth 65536 in
theorem w_c24 : (Jvm.Cond.code ({ cls := "com/example/ortigia/ortigia/LockKeysOfPinLaw", name := "expected", desc := "(CCCCILjava/lang/String;)Ljava/lang/String;" } : Jvm.MethodName) method_4_code (9 : Nat) (Option.some (Jvm.ClassFile.FieldType.object "java/lang/String"))).before args0 about1 = true := code_word (m := ⟨1, 3⟩) (meth := k1m3) (c := k1c3) (by decide +kernel) rfl rfl rfl (by decide +kernel)
set_option maxRecDepth 65536 in
theorem w_c25 : (Jvm.Cond.code ({ cls := "java/lang/String", name := "charAt", desc := "(I)C" } : Jvm.MethodName) jdk_42_method_56_code (2 : Nat) (Option.some Jvm.ClassFile.FieldType.char)).before args0 about1 = true := code_word (m := ⟨7, 5⟩) (meth := k7m5) (c := k7c5) (by decide +kernel) rfl rfl rfl (by decide +kernel)
set_option maxRecDepth 65536 in
theorem w_c26 : (Jvm.Cond.code ({ cls := "java/lang/StringLatin1", name := "charAt", desc := "([BI)C" } : Jvm.MethodName) jdk_43_method_2_code (2 : Nat) (Option.some Jvm.ClassFile.FieldType.char)).before args0 about1 = true := code_word (m := ⟨11, 1⟩) (meth := k11m1) (c := k11c1) (by decide +kernel) rfl rfl rfl (by decide +kernel)
set_option maxRecDepth 65536 in
theorem w_c27 : (Jvm.Cond.code ({ cls := "java/lang/String", name := "checkIndex", desc := "(II)V" } : Jvm.MethodName) jdk_42_method_155_code (2 : Nat) (Option.none : Option Jvm.ClassFile.FieldType)).before args0 about1 = true := code_word (m := ⟨7, 14⟩) (meth := k7m14) (c := k7c14) (by decide +kernel) rfl rfl rfl (by decide +kernel)
set_option maxRecDepth 65536 in
theorem w_c28 : (Jvm.Cond.code ({ cls := "jdk/internal/util/Preconditions", name := "checkIndex", desc := "(IILjava/util/function/BiFunction;)I" } : Jvm.MethodName) jdk_41_method_11_code (3 : Nat) (Option.some Jvm.ClassFile.FieldType.int)).before args0 about1 = true := code_word (m := ⟨13, 1⟩) (meth := k13m1) (c := k13c1) (by decide +kernel) rfl rfl rfl (by decide +kernel)
set_option maxRecDepth 65536 in
theorem w_c29 : (Jvm.Cond.code ({ cls := "com/example/ortigia/ortigia/LockKeys", name := "fenceKey", desc := "()Ljava/lang/String;" } : Jvm.MethodName) prog_4_method_4_code (1 : Nat) (Option.some (Jvm.ClassFile.FieldType.object "java/lang/String"))).before args0 about1 = true := code_word (m := ⟨9, 3⟩) (meth := k9m3) (c := k9c3) (by decide +kernel) rfl rfl rfl (by decide +kernel)
set_option maxRecDepth 65536 in
theorem w_c30 : (Jvm.Cond.code ({ cls := "com/example/ortigia/ortigia/LockKeys", name := "hashTagged", desc := "(Ljava/lang/String;)Ljava/lang/String;" } : Jvm.MethodName) prog_4_method_7_code (2 : Nat) (Option.some (Jvm.ClassFile.FieldType.object "java/lang/String"))).before args0 about1 = true := code_word (m := ⟨9, 6⟩) (meth := k9m6) (c := k9c6) (by decide +kernel) rfl rfl rfl (by decide +kernel)
set_option maxRecDepth 65536 in
theorem w_c31 : (Jvm.Cond.code ({ cls := "java/lang/StringBuilder", name := "<init>", desc := "()V" } : Jvm.MethodName) jdk_67_method_1_code (1 : Nat) (Option.none : Option Jvm.ClassFile.FieldType)).before args0 about1 = true := code_word (m := ⟨16, 0⟩) (meth := k16m0) (c := k16c0) (by decide +kernel) rfl rfl rfl (by decide +kernel)
set_option maxRecDepth 65536 in
theorem w_c32 : (Jvm.Cond.code ({ cls := "java/lang/AbstractStringBuilder", name := "<init>", desc := "(I)V" } : Jvm.MethodName) jdk_68_method_2_code (2 : Nat) (Option.none : Option Jvm.ClassFile.FieldType)).before args0 about1 = true := code_word (m := ⟨15, 1⟩) (meth := k15m1) (c := k15c1) (by decide +kernel) rfl rfl rfl (by decide +kernel)
set_option maxRecDepth 65536 in
theorem w_c33 : (Jvm.Cond.code ({ cls := "java/lang/StringBuilder", name := "append", desc := "(Ljava/lang/String;)Ljava/lang/StringBuilder;" } : Jvm.MethodName) jdk_67_method_7_code (2 : Nat) (Option.some (Jvm.ClassFile.FieldType.object "java/lang/StringBuilder"))).before args0 about1 = true := code_word (m := ⟨16, 1⟩) (meth := k16m1) (c := k16c1) (by decide +kernel) rfl rfl rfl (by decide +kernel)
set_option maxRecDepth 65536 in
theorem w_c34 : (Jvm.Cond.code ({ cls := "java/lang/AbstractStringBuilder", name := "append", desc := "(Ljava/lang/String;)Ljava/lang/AbstractStringBuilder;" } : Jvm.MethodName) jdk_68_method_22_code (3 : Nat) (Option.some (Jvm.ClassFile.FieldType.object "java/lang/AbstractStringBuilder"))).before args0 about1 = true := code_word (m := ⟨15, 4⟩) (meth := k15m4) (c := k15c4) (by decide +kernel) rfl rfl rfl (by decide +kernel)
set_option maxRecDepth 65536 in
theorem w_c35 : (Jvm.Cond.code ({ cls := "java/lang/AbstractStringBuilder", name := "ensureCapacityInternal", desc := "(I)V" } : Jvm.MethodName) jdk_68_method_9_code (3 : Nat) (Option.none : Option Jvm.ClassFile.FieldType)).before args0 about1 = true := code_word (m := ⟨15, 3⟩) (meth := k15m3) (c := k15c3) (by decide +kernel) rfl rfl rfl (by decide +kernel)
set_option maxRecDepth 65536 in
theorem w_c36 : (Jvm.Cond.code ({ cls := "java/lang/AbstractStringBuilder", name := "putStringAt", desc := "(ILjava/lang/String;)V" } : Jvm.MethodName) jdk_68_method_73_code (3 : Nat) (Option.none : Option Jvm.ClassFile.FieldType)).before args0 about1 = true := code_word (m := ⟨15, 8⟩) (meth := k15m8) (c := k15c8) (by decide +kernel) rfl rfl rfl (by decide +kernel)
set_option maxRecDepth 65536 in
theorem w_c37 : (Jvm.Cond.code ({ cls := "java/lang/AbstractStringBuilder", name := "inflateIfNeededFor", desc := "(Ljava/lang/String;)V" } : Jvm.MethodName) jdk_68_method_71_code (2 : Nat) (Option.none : Option Jvm.ClassFile.FieldType)).before args0 about1 = true := code_word (m := ⟨15, 7⟩) (meth := k15m7) (c := k15c7) (by decide +kernel) rfl rfl rfl (by decide +kernel)
set_option maxRecDepth 65536 in
theorem w_c38 : (Jvm.Cond.code ({ cls := "java/lang/String", name := "getBytes", desc := "([BIB)V" } : Jvm.MethodName) jdk_42_method_147_code (4 : Nat) (Option.none : Option Jvm.ClassFile.FieldType)).before args0 about1 = true := code_word (m := ⟨7, 9⟩) (meth := k7m9) (c := k7c9) (by decide +kernel) rfl rfl rfl (by decide +kernel)
set_option maxRecDepth 65536 in
theorem w_c39 : (Jvm.Cond.code ({ cls := "java/lang/StringBuilder", name := "toString", desc := "()Ljava/lang/String;" } : Jvm.MethodName) jdk_67_method_42_code (1 : Nat) (Option.some (Jvm.ClassFile.FieldType.object "java/lang/String"))).before args0 about1 = true := code_word (m := ⟨16, 2⟩) (meth := k16m2) (c := k16c2) (by decide +kernel) rfl rfl rfl (by decide +kernel)
set_option maxRecDepth 65536 in
theorem w_c40 : (Jvm.Cond.code ({ cls := "java/lang/String", name := "<init>", desc := "(Ljava/lang/StringBuilder;)V" } : Jvm.MethodName) jdk_42_method_53_code (2 : Nat) (Option.none : Option Jvm.ClassFile.FieldType)).before args0 about1 = true := code_word (m := ⟨7, 2⟩) (meth := k7m2) (c := k7c2) (by decide +kernel) rfl rfl rfl (by decide +kernel)
set_option maxRecDepth 65536 in
theorem w_c41 : (Jvm.Cond.code ({ cls := "java/lang/String", name := "<init>", desc := "(Ljava/lang/AbstractStringBuilder;Ljava/lang/Void;)V" } : Jvm.MethodName) jdk_42_method_150_code (5 : Nat) (Option.none : Option Jvm.ClassFile.FieldType)).before args0 about1 = true := code_word (m := ⟨7, 11⟩) (meth := k7m11) (c := k7c11) (by decide +kernel) rfl rfl rfl (by decide +kernel)
set_option maxRecDepth 65536 in
theorem w_c42 : (Jvm.Cond.code ({ cls := "java/lang/AbstractStringBuilder", name := "getValue", desc := "()[B" } : Jvm.MethodName) jdk_68_method_64_code (1 : Nat) (Option.some (Jvm.ClassFile.FieldType.array Jvm.ClassFile.FieldType.byte))).before args0 about1 = true := code_word (m := ⟨15, 5⟩) (meth := k15m5) (c := k15c5) (by decide +kernel) rfl rfl rfl (by decide +kernel)
set_option maxRecDepth 65536 in
theorem w_c43 : (Jvm.Cond.code ({ cls := "java/lang/StringBuilder", name := "length", desc := "()I" } : Jvm.MethodName) jdk_67_method_93_code (1 : Nat) (Option.some Jvm.ClassFile.FieldType.int)).before args0 about1 = true := code_word (m := ⟨16, 3⟩) (meth := k16m3) (c := k16c3) (by decide +kernel) rfl rfl rfl (by decide +kernel)
set_option maxRecDepth 65536 in
theorem w_c44 : (Jvm.Cond.code ({ cls := "java/lang/AbstractStringBuilder", name := "length", desc := "()I" } : Jvm.MethodName) jdk_68_method_6_code (1 : Nat) (Option.some Jvm.ClassFile.FieldType.int)).before args0 about1 = true := code_word (m := ⟨15, 2⟩) (meth := k15m2) (c := k15c2) (by decide +kernel) rfl rfl rfl (by decide +kernel)
set_option maxRecDepth 65536 in
theorem w_c45 : (Jvm.Cond.code ({ cls := "java/lang/AbstractStringBuilder", name := "isLatin1", desc := "()Z" } : Jvm.MethodName) jdk_68_method_68_code (1 : Nat) (Option.some Jvm.ClassFile.FieldType.boolean)).before args0 about1 = true := code_word (m := ⟨15, 6⟩) (meth := k15m6) (c := k15c6) (by decide +kernel) rfl rfl rfl (by decide +kernel)
set_option maxRecDepth 65536 in
theorem w_c46 : (Jvm.Cond.code ({ cls := "java/util/Arrays", name := "copyOfRange", desc := "([BII)[B" } : Jvm.MethodName) jdk_65_method_132_code (3 : Nat) (Option.some (Jvm.ClassFile.FieldType.array Jvm.ClassFile.FieldType.byte))).before args0 about1 = true := code_word (m := ⟨18, 2⟩) (meth := k18m2) (c := k18c2) (by decide +kernel) rfl rfl rfl (by decide +kernel)
set_option maxRecDepth 65536 in
theorem w_c47 : (Jvm.Cond.code ({ cls := "java/util/Arrays", name := "copyOfRangeByte", desc := "([BII)[B" } : Jvm.MethodName) jdk_65_method_133_code (5 : Nat) (Option.some (Jvm.ClassFile.FieldType.array Jvm.ClassFile.FieldType.byte))).before args0 about1 = true := code_word (m := ⟨18, 3⟩) (meth := k18m3) (c := k18c3) (by decide +kernel) rfl rfl rfl (by decide +kernel)
set_option maxRecDepth 65536 in
theorem w_c48 : (Jvm.Cond.code ({ cls := "java/util/Arrays", name := "checkLength", desc := "(II)V" } : Jvm.MethodName) jdk_65_method_131_code (2 : Nat) (Option.none : Option Jvm.ClassFile.FieldType)).before args0 about1 = true := code_word (m := ⟨18, 1⟩) (meth := k18m1) (c := k18c1) (by decide +kernel) rfl rfl rfl (by decide +kernel)
set_option maxRecDepth 65536 in
theorem w_c49 : (Jvm.Cond.code ({ cls := "java/lang/StringLatin1", name := "equals", desc := "([B[B)Z" } : Jvm.MethodName) jdk_43_method_13_code (3 : Nat) (Option.some Jvm.ClassFile.FieldType.boolean)).before args0 about1 = true := code_word (m := ⟨11, 3⟩) (meth := k11m3) (c := k11c3) (by decide +kernel) rfl rfl rfl (by decide +kernel)
set_option maxRecDepth 65536 in
theorem w_c50 : (Jvm.Cond.code ({ cls := "com/example/ortigia/ortigia/LockKeys", name := "releasedChannel", desc := "()Ljava/lang/String;" } : Jvm.MethodName) prog_4_method_5_code (1 : Nat) (Option.some (Jvm.ClassFile.FieldType.object "java/lang/String"))).before args0 about1 = true := code_word (m := ⟨9, 4⟩) (meth := k9m4) (c := k9c4) (by decide +kernel) rfl rfl rfl (by decide +kernel)
set_option maxRecDepth 65536 in
theorem w_c51 : (Jvm.Cond.code ({ cls := "com/example/ortigia/ortigia/LockKeys", name := "waitersKey", desc := "()Ljava/lang/String;" } : Jvm.MethodName) prog_4_method_6_code (1 : Nat) (Option.some (Jvm.ClassFile.FieldType.object "java/lang/String"))).before args0 about1 = true := code_word (m := ⟨9, 5⟩) (meth := k9m5) (c := k9c5) (by decide +kernel) rfl rfl rfl (by decide +kernel)
def codes1 : List Jvm.Cond := [Jvm.Cond.code x code maxLocals ret, Jvm.Cond.code ({ cls := "com/example/ortigia/ortigia/LockKeysOfPinLaw", name := "brace", desc := "(C)Z" } : Jvm.MethodName) method_3_code (1 : Nat) (Option.some Jvm.ClassFile.FieldType.boolean), Jvm.Cond.code ({ cls := "java/lang/String", name := "<init>", desc := "([C)V" } : Jvm.MethodName) jdk_42_method_3_code (2 : Nat) (Option.none : Option Jvm.ClassFile.FieldType), Jvm.Cond.code ({ cls := "java/lang/String", name := "<init>", desc := "([CIILjava/lang/Void;)V" } : Jvm.MethodName) jdk_42_method_149_code (6 : Nat) (Option.none : Option Jvm.ClassFile.FieldType), Jvm.Cond.code ({ cls := "java/lang/Object", name := "<init>", desc := "()V" } : Jvm.MethodName) object_method_1_code (1 : Nat) (Option.none : Option Jvm.ClassFile.FieldType), Jvm.Cond.code ({ cls := "java/lang/StringUTF16", name := "compress", desc := "([CII)[B" } : Jvm.MethodName) jdk_52_method_16_code (6 : Nat) (Option.some (Jvm.ClassFile.FieldType.array Jvm.ClassFile.FieldType.byte)), Jvm.Cond.code ({ cls := "java/lang/StringUTF16", name := "compress", desc := "([CI[BII)I" } : Jvm.MethodName) jdk_52_method_21_code (7 : Nat) (Option.some Jvm.ClassFile.FieldType.int), Jvm.Cond.code ({ cls := "java/lang/StringUTF16", name := "coderFromArrayLen", desc := "([BI)B" } : Jvm.MethodName) jdk_52_method_15_code (2 : Nat) (Option.some Jvm.ClassFile.FieldType.byte), Jvm.Cond.code ({ cls := "com/example/ortigia/ortigia/LockKeys", name := "of", desc := "(Ljava/lang/String;)Lcom/example/ortigia/ortigia/LockKeys;" } : Jvm.MethodName) prog_4_method_2_code (1 : Nat) (Option.some (Jvm.ClassFile.FieldType.object "com/example/ortigia/ortigia/LockKeys")), Jvm.Cond.code ({ cls := "java/util/Objects", name := "requireNonNull", desc := "(Ljava/lang/Object;Ljava/lang/String;)Ljava/lang/Object;" } : Jvm.MethodName) jdk_31_method_11_code (2 : Nat) (Option.some (Jvm.ClassFile.FieldType.object "java/lang/Object")), Jvm.Cond.code ({ cls := "java/lang/String", name := "isEmpty", desc := "()Z" } : Jvm.MethodName) jdk_42_method_55_code (1 : Nat) (Option.some Jvm.ClassFile.FieldType.boolean), Jvm.Cond.code ({ cls := "java/lang/String", name := "indexOf", desc := "(I)I" } : Jvm.MethodName) jdk_42_method_79_code (2 : Nat) (Option.some Jvm.ClassFile.FieldType.int), Jvm.Cond.code ({ cls := "java/lang/String", name := "indexOf", desc := "(II)I" } : Jvm.MethodName) jdk_42_method_80_code (3 : Nat) (Option.some Jvm.ClassFile.FieldType.int), Jvm.Cond.code ({ cls := "java/lang/String", name := "isLatin1", desc := "()Z" } : Jvm.MethodName) jdk_42_method_154_code (1 : Nat) (Option.some Jvm.ClassFile.FieldType.boolean), Jvm.Cond.code ({ cls := "java/lang/String", name := "length", desc := "()I" } : Jvm.MethodName) jdk_42_method_54_code (1 : Nat) (Option.some Jvm.ClassFile.FieldType.int), Jvm.Cond.code ({ cls := "java/lang/String", name := "coder", desc := "()B" } : Jvm.MethodName) jdk_42_method_152_code (1 : Nat) (Option.some Jvm.ClassFile.FieldType.byte), Jvm.Cond.code ({ cls := "java/lang/StringLatin1", name := "indexOf", desc := "([BIII)I" } : Jvm.MethodName) jdk_43_method_22_code (4 : Nat) (Option.some Jvm.ClassFile.FieldType.int), Jvm.Cond.code ({ cls := "java/lang/StringLatin1", name := "canEncode", desc := "(I)Z" } : Jvm.MethodName) jdk_43_method_4_code (1 : Nat) (Option.some Jvm.ClassFile.FieldType.boolean), Jvm.Cond.code ({ cls := "java/lang/Math", name := "max", desc := "(II)I" } : Jvm.MethodName) jdk_29_method_65_code (2 : Nat) (Option.some Jvm.ClassFile.FieldType.int), Jvm.Cond.code ({ cls := "java/lang/Math", name := "min", desc := "(II)I" } : Jvm.MethodName) jdk_29_method_69_code (2 : Nat) (Option.some Jvm.ClassFile.FieldType.int), Jvm.Cond.code ({ cls := "java/lang/StringLatin1", name := "indexOfChar", desc := "([BIII)I" } : Jvm.MethodName) jdk_43_method_23_code (6 : Nat) (Option.some Jvm.ClassFile.FieldType.int), Jvm.Cond.code ({ cls := "com/example/ortigia/ortigia/LockKeys", name := "<init>", desc := "(Ljava/lang/String;)V" } : Jvm.MethodName) prog_4_method_1_code (2 : Nat) (Option.none : Option Jvm.ClassFile.FieldType), Jvm.Cond.code ({ cls := "com/example/ortigia/ortigia/LockKeys", name := "lockKey", desc := "()Ljava/lang/String;" } : Jvm.MethodName) prog_4_method_3_code (1 : Nat) (Option.some (Jvm.ClassFile.FieldType.object "java/lang/String")), Jvm.Cond.code ({ cls := "java/lang/String", name := "equals", desc := "(Ljava/lang/Object;)Z" } : Jvm.MethodName) jdk_42_method_66_code (3 : Nat) (Option.some Jvm.ClassFile.FieldType.boolean), Jvm.Cond.code ({ cls := "com/example/ortigia/ortigia/LockKeysOfPinLaw", name := "expected", desc := "(CCCCILjava/lang/String;)Ljava/lang/String;" } : Jvm.MethodName) method_4_code (9 : Nat) (Option.some (Jvm.ClassFile.FieldType.object "java/lang/String")), Jvm.Cond.code ({ cls := "java/lang/String", name := "charAt", desc := "(I)C" } : Jvm.MethodName) jdk_42_method_56_code (2 : Nat) (Option.some Jvm.ClassFile.FieldType.char), Jvm.Cond.code ({ cls := "java/lang/StringLatin1", name := "charAt", desc := "([BI)C" } : Jvm.MethodName) jdk_43_method_2_code (2 : Nat) (Option.some Jvm.ClassFile.FieldType.char), Jvm.Cond.code ({ cls := "java/lang/String", name := "checkIndex", desc := "(II)V" } : Jvm.MethodName) jdk_42_method_155_code (2 : Nat) (Option.none : Option Jvm.ClassFile.FieldType), Jvm.Cond.code ({ cls := "jdk/internal/util/Preconditions", name := "checkIndex", desc := "(IILjava/util/function/BiFunction;)I" } : Jvm.MethodName) jdk_41_method_11_code (3 : Nat) (Option.some Jvm.ClassFile.FieldType.int), Jvm.Cond.code ({ cls := "com/example/ortigia/ortigia/LockKeys", name := "fenceKey", desc := "()Ljava/lang/String;" } : Jvm.MethodName) prog_4_method_4_code (1 : Nat) (Option.some (Jvm.ClassFile.FieldType.object "java/lang/String")), Jvm.Cond.code ({ cls := "com/example/ortigia/ortigia/LockKeys", name := "hashTagged", desc := "(Ljava/lang/String;)Ljava/lang/String;" } : Jvm.MethodName) prog_4_method_7_code (2 : Nat) (Option.some (Jvm.ClassFile.FieldType.object "java/lang/String")), Jvm.Cond.code ({ cls := "java/lang/StringBuilder", name := "<init>", desc := "()V" } : Jvm.MethodName) jdk_67_method_1_code (1 : Nat) (Option.none : Option Jvm.ClassFile.FieldType), Jvm.Cond.code ({ cls := "java/lang/AbstractStringBuilder", name := "<init>", desc := "(I)V" } : Jvm.MethodName) jdk_68_method_2_code (2 : Nat) (Option.none : Option Jvm.ClassFile.FieldType), Jvm.Cond.code ({ cls := "java/lang/StringBuilder", name := "append", desc := "(Ljava/lang/String;)Ljava/lang/StringBuilder;" } : Jvm.MethodName) jdk_67_method_7_code (2 : Nat) (Option.some (Jvm.ClassFile.FieldType.object "java/lang/StringBuilder")), Jvm.Cond.code ({ cls := "java/lang/AbstractStringBuilder", name := "append", desc := "(Ljava/lang/String;)Ljava/lang/AbstractStringBuilder;" } : Jvm.MethodName) jdk_68_method_22_code (3 : Nat) (Option.some (Jvm.ClassFile.FieldType.object "java/lang/AbstractStringBuilder")), Jvm.Cond.code ({ cls := "java/lang/AbstractStringBuilder", name := "ensureCapacityInternal", desc := "(I)V" } : Jvm.MethodName) jdk_68_method_9_code (3 : Nat) (Option.none : Option Jvm.ClassFile.FieldType), Jvm.Cond.code ({ cls := "java/lang/AbstractStringBuilder", name := "putStringAt", desc := "(ILjava/lang/String;)V" } : Jvm.MethodName) jdk_68_method_73_code (3 : Nat) (Option.none : Option Jvm.ClassFile.FieldType), Jvm.Cond.code ({ cls := "java/lang/AbstractStringBuilder", name := "inflateIfNeededFor", desc := "(Ljava/lang/String;)V" } : Jvm.MethodName) jdk_68_method_71_code (2 : Nat) (Option.none : Option Jvm.ClassFile.FieldType), Jvm.Cond.code ({ cls := "java/lang/String", name := "getBytes", desc := "([BIB)V" } : Jvm.MethodName) jdk_42_method_147_code (4 : Nat) (Option.none : Option Jvm.ClassFile.FieldType), Jvm.Cond.code ({ cls := "java/lang/StringBuilder", name := "toString", desc := "()Ljava/lang/String;" } : Jvm.MethodName) jdk_67_method_42_code (1 : Nat) (Option.some (Jvm.ClassFile.FieldType.object "java/lang/String")), Jvm.Cond.code ({ cls := "java/lang/String", name := "<init>", desc := "(Ljava/lang/StringBuilder;)V" } : Jvm.MethodName) jdk_42_method_53_code (2 : Nat) (Option.none : Option Jvm.ClassFile.FieldType), Jvm.Cond.code ({ cls := "java/lang/String", name := "<init>", desc := "(Ljava/lang/AbstractStringBuilder;Ljava/lang/Void;)V" } : Jvm.MethodName) jdk_42_method_150_code (5 : Nat) (Option.none : Option Jvm.ClassFile.FieldType), Jvm.Cond.code ({ cls := "java/lang/AbstractStringBuilder", name := "getValue", desc := "()[B" } : Jvm.MethodName) jdk_68_method_64_code (1 : Nat) (Option.some (Jvm.ClassFile.FieldType.array Jvm.ClassFile.FieldType.byte)), Jvm.Cond.code ({ cls := "java/lang/StringBuilder", name := "length", desc := "()I" } : Jvm.MethodName) jdk_67_method_93_code (1 : Nat) (Option.some Jvm.ClassFile.FieldType.int), Jvm.Cond.code ({ cls := "java/lang/AbstractStringBuilder", name := "length", desc := "()I" } : Jvm.MethodName) jdk_68_method_6_code (1 : Nat) (Option.some Jvm.ClassFile.FieldType.int), Jvm.Cond.code ({ cls := "java/lang/AbstractStringBuilder", name := "isLatin1", desc := "()Z" } : Jvm.MethodName) jdk_68_method_68_code (1 : Nat) (Option.some Jvm.ClassFile.FieldType.boolean), Jvm.Cond.code ({ cls := "java/util/Arrays", name := "copyOfRange", desc := "([BII)[B" } : Jvm.MethodName) jdk_65_method_132_code (3 : Nat) (Option.some (Jvm.ClassFile.FieldType.array Jvm.ClassFile.FieldType.byte)), Jvm.Cond.code ({ cls := "java/util/Arrays", name := "copyOfRangeByte", desc := "([BII)[B" } : Jvm.MethodName) jdk_65_method_133_code (5 : Nat) (Option.some (Jvm.ClassFile.FieldType.array Jvm.ClassFile.FieldType.byte)), Jvm.Cond.code ({ cls := "java/util/Arrays", name := "checkLength", desc := "(II)V" } : Jvm.MethodName) jdk_65_method_131_code (2 : Nat) (Option.none : Option Jvm.ClassFile.FieldType), Jvm.Cond.code ({ cls := "java/lang/StringLatin1", name := "equals", desc := "([B[B)Z" } : Jvm.MethodName) jdk_43_method_13_code (3 : Nat) (Option.some Jvm.ClassFile.FieldType.boolean), Jvm.Cond.code ({ cls := "com/example/ortigia/ortigia/LockKeys", name := "releasedChannel", desc := "()Ljava/lang/String;" } : Jvm.MethodName) prog_4_method_5_code (1 : Nat) (Option.some (Jvm.ClassFile.FieldType.object "java/lang/String")), Jvm.Cond.code ({ cls := "com/example/ortigia/ortigia/LockKeys", name := "waitersKey", desc := "()Ljava/lang/String;" } : Jvm.MethodName) prog_4_method_6_code (1 : Nat) (Option.some (Jvm.ClassFile.FieldType.object "java/lang/String"))]
set_option maxRecDepth 65536 in
theorem codes_eq : words1.filter isCode = codes1 := rfl
theorem w_codes : ∀ c ∈ words1.filter isCode, c.before args0 about1 = true := by
  rw [codes_eq]
  intro c hc
  simp only [codes1, List.mem_cons, List.not_mem_nil, or_false] at hc
  rcases hc with rfl | rfl | rfl | rfl | rfl | rfl | rfl | rfl | rfl | rfl | rfl | rfl | rfl | rfl | rfl | rfl | rfl | rfl | rfl | rfl | rfl | rfl | rfl | rfl | rfl | rfl | rfl | rfl | rfl | rfl | rfl | rfl | rfl | rfl | rfl | rfl | rfl | rfl | rfl | rfl | rfl | rfl | rfl | rfl | rfl | rfl | rfl | rfl | rfl | rfl | rfl | rfl
  · exact w_c0
  · exact w_c1
  · exact w_c2
  · exact w_c3
  · exact w_c4
  · exact w_c5
  · exact w_c6
  · exact w_c7
  · exact w_c8
  · exact w_c9
  · exact w_c10
  · exact w_c11
  · exact w_c12
  · exact w_c13
  · exact w_c14
  · exact w_c15
  · exact w_c16
  · exact w_c17
  · exact w_c18
  · exact w_c19
  · exact w_c20
  · exact w_c21
  · exact w_c22
  · exact w_c23
  · exact w_c24
  · exact w_c25
  · exact w_c26
  · exact w_c27
  · exact w_c28
  · exact w_c29
  · exact w_c30
  · exact w_c31
  · exact w_c32
  · exact w_c33
  · exact w_c34
  · exact w_c35
  · exact w_c36
  · exact w_c37
  · exact w_c38
  · exact w_c39
  · exact w_c40
  · exact w_c41
  · exact w_c42
  · exact w_c43
  · exact w_c44
  · exact w_c45
  · exact w_c46
  · exact w_c47
  · exact w_c48
  · exact w_c49
  · exact w_c50
  · exact w_c51
set_option maxRecDepth 65536 in
theorem w_t1 : (words1.take 24).all (fun c => isCode c || c.before args0 about1) = true := by decide +kernel
set_option maxRecDepth 65536 in
theorem w_t2 : ((words1.drop 24).take 24).all (fun c => isCode c || c.before args0 about1) = true := by decide +kernel
set_option maxRecDepth 65536 in
theorem w_t3 : (((words1.drop 24).drop 24).take 24).all (fun c => isCode c || c.before args0 about1) = true := by decide +kernel
set_option maxRecDepth 65536 in
theorem w_t4 : ((((words1.drop 24).drop 24).drop 24).take 24).all (fun c => isCode c || c.before args0 about1) = true := by decide +kernel
set_option maxRecDepth 65536 in
theorem w_t5 : (((((words1.drop 24).drop 24).drop 24).drop 24).take 24).all (fun c => isCode c || c.before args0 about1) = true := by decide +kernel
set_option maxRecDepth 65536 in
theorem w_t6 : ((((((words1.drop 24).drop 24).drop 24).drop 24).drop 24).take 24).all (fun c => isCode c || c.before args0 about1) = true := by decide +kernel
set_option maxRecDepth 65536 in
theorem w_t7 : (((((((words1.drop 24).drop 24).drop 24).drop 24).drop 24).drop 24).take 24).all (fun c => isCode c || c.before args0 about1) = true := by decide +kernel
set_option maxRecDepth 65536 in
theorem w_t8 : ((((((((words1.drop 24).drop 24).drop 24).drop 24).drop 24).drop 24).drop 24).take 24).all (fun c => isCode c || c.before args0 about1) = true := by decide +kernel
set_option maxRecDepth 65536 in
theorem w_t9 : (((((((((words1.drop 24).drop 24).drop 24).drop 24).drop 24).drop 24).drop 24).drop 24).take 24).all (fun c => isCode c || c.before args0 about1) = true := by decide +kernel
set_option maxRecDepth 65536 in
theorem w_t10 : ((((((((((words1.drop 24).drop 24).drop 24).drop 24).drop 24).drop 24).drop 24).drop 24).drop 24).take 24).all (fun c => isCode c || c.before args0 about1) = true := by decide +kernel
set_option maxRecDepth 65536 in
theorem w_t11 : ((((((((((words1.drop 24).drop 24).drop 24).drop 24).drop 24).drop 24).drop 24).drop 24).drop 24).drop 24).all (fun c => isCode c || c.before args0 about1) = true := by decide +kernel
theorem w_tables : (allAtoms (Jvm.Cond.code x code maxLocals ret :: tables_1)).before args0 about1 = true := by
  rw [allAtoms_all]
  show words1.all (fun c => c.before args0 about1) = true
  refine all_split ?_ w_codes
  rw [← List.take_append_drop 24 words1, List.all_append, w_t1, ← List.take_append_drop 24 (words1.drop 24), List.all_append, w_t2, ← List.take_append_drop 24 ((words1.drop 24).drop 24), List.all_append, w_t3, ← List.take_append_drop 24 (((words1.drop 24).drop 24).drop 24), List.all_append, w_t4, ← List.take_append_drop 24 ((((words1.drop 24).drop 24).drop 24).drop 24), List.all_append, w_t5, ← List.take_append_drop 24 (((((words1.drop 24).drop 24).drop 24).drop 24).drop 24), List.all_append, w_t6, ← List.take_append_drop 24 ((((((words1.drop 24).drop 24).drop 24).drop 24).drop 24).drop 24), List.all_append, w_t7, ← List.take_append_drop 24 (((((((words1.drop 24).drop 24).drop 24).drop 24).drop 24).drop 24).drop 24), List.all_append, w_t8, ← List.take_append_drop 24 ((((((((words1.drop 24).drop 24).drop 24).drop 24).drop 24).drop 24).drop 24).drop 24), List.all_append, w_t9, ← List.take_append_drop 24 (((((((((words1.drop 24).drop 24).drop 24).drop 24).drop 24).drop 24).drop 24).drop 24).drop 24), List.all_append, w_t10, w_t11]
  rfl
set_option maxRecDepth 65536 in
theorem w_rest : rest_1_c.before args0 about1 = true := by decide +kernel
set_option maxRecDepth 65536 in
theorem w_case : (Jvm.Cond.and given_1 narrow_1).before args0 about1 = true := by decide +kernel
set_option maxRecDepth 65536 in
theorem w_consts : constsHeld consts_1 about1 := Jvm.Lit.constsHeldB_iff.mp (by decide +kernel)
theorem w_applies : (headSpec (Jvm.Cond.code x code maxLocals ret :: tables_1) room_1).applies x e0.platform about1 = true :=
  (Spec.applies_iff w_frames).mpr ⟨w_running, w_runnable, w_alone, w_named, w_hears, w_ripe, w_room, w_tables⟩
theorem atStart : AtStart classFile x code maxLocals ret World_1 tables_1 room_1 Calls_1 rest_1 Pre_1 launch0 p0 e0 about1 theMethod args0 below0 :=
  ⟨lists_1, trivial, launch0.admits_env _ _ _, launch0.least_env, fairChoices_fair.cas, fairChoices_fair.clock, w_frames, w_args, w_heap, w_applies, ⟨w_consts, trivial⟩, w_rest, w_case⟩
end start1
theorem witness_1 : WitnessClaimed_1 := ⟨start1.p0, start1.e0, start1.about1, start1.theMethod, start1.args0, start1.below0, start1.atStart⟩
end Jvm.Pilot.@@N@@
