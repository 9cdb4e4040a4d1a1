import JvmDerived
import JvmDerived.Pilot.@@N@@Statement
import JvmDerived.Pilot.@@N@@Code
set_option linter.unusedVariables false
set_option linter.unusedSimpArgs false
namespace Jvm.Pilot.@@N@@
open Jvm Jvm.ClassFile Sem Op Lib Bundle Jvm.Free Jvm.Stand Jvm.LawKit Jvm.RoadKit
/-! ## The walk's own layer: where a run stands (Hr), a method's contract (Ct), one lemma a step. -/
/-- the fixed part of one walk: program, launch, environment, start, method, arguments, frames below, method record, code, the state where the steps begin, the cells that it may write, narrow tables?, known frames? -/
abbrev Cx : Type := Program × Launch × Env × State × MethodId × Array Value × List Frame × Method × Code × State × List Addr × Bool × Bool
abbrev Cx.p (x : Cx) : Program := x.1
abbrev Cx.l (x : Cx) : Launch := x.2.1
abbrev Cx.e (x : Cx) : Env := x.2.2.1
abbrev Cx.s (x : Cx) : State := x.2.2.2.1
abbrev Cx.m (x : Cx) : MethodId := x.2.2.2.2.1
abbrev Cx.args (x : Cx) : Array Value := x.2.2.2.2.2.1
abbrev Cx.below (x : Cx) : List Frame := x.2.2.2.2.2.2.1
abbrev Cx.meth (x : Cx) : Method := x.2.2.2.2.2.2.2.1
abbrev Cx.c (x : Cx) : Code := x.2.2.2.2.2.2.2.2.1
abbrev Cx.B (x : Cx) : State := x.2.2.2.2.2.2.2.2.2.1
abbrev Cx.sf0 (x : Cx) : List Addr := x.2.2.2.2.2.2.2.2.2.2.1
abbrev Cx.nar (x : Cx) : Bool := x.2.2.2.2.2.2.2.2.2.2.2.1
abbrev Cx.kn (x : Cx) : Bool := x.2.2.2.2.2.2.2.2.2.2.2.2
/-- a body: its room, its method's name, bytes, number of locals, what it returns -/
abbrev Bx : Type := Room × MethodName × ByteArray × Nat × Option FieldType
abbrev Bx.R (b : Bx) : Room := b.1
abbrev Bx.y (b : Bx) : MethodName := b.2.1
abbrev Bx.bytes (b : Bx) : ByteArray := b.2.2.1
abbrev Bx.maxL (b : Bx) : Nat := b.2.2.2.1
abbrev Bx.ret (b : Bx) : Option FieldType := b.2.2.2.2
/-- what never moves in a walk -/
def Bs (x : Cx) (b : Bx) (Z : State) (EL : List (String × Nat)) : Prop :=
  (∃ a0, EW Z a0 EL) ∧ x.p.tables.exec = Jvm.exec ∧ x.c.code = b.bytes ∧ x.c.maxLocals = b.maxL ∧ x.meth.sig.returnType = b.ret ∧ x.meth.locks = false ∧ x.meth.name = b.y.name
/-- a cell that the walk may write: made since the walk's start (or handed in), made since the law's start, and no literal's -/
def Mine (x : Cx) (Z : State) (EL : List (String × Nat)) (vm : Vm) (h : Heap) (a : Addr) : Prop := (a ∈ x.sf0 ∨ x.s.heap.size ≤ a) ∧ Z.heap.size ≤ a ∧ a < h.size ∧ Safe Z EL vm h a
/-- what moves, but for the frame -/
def Hx (x : Cx) (b : Bx) (Z : State) (EL : List (String × Nat)) (K S : Nat) (h : Heap) (sf : List Addr) (T : State) (locs : List Loc) (cells slots : Nat) (vm0 : Vm) (k0 : Nat) : Prop :=
  Stand x.p x.l x.e b.R (x.s.setVm vm0) x.m x.args x.below x.meth x.c T locs cells slots ∧ cells ≤ K ∧ slots ≤ S ∧ T.heap = h ∧ Fr Z.heap.size locs ∧
    x.s.Since vm0 k0 ∧ k0 ≤ h.size ∧ Z.Warmed39 vm0 ∧ vm0.findClass b.y.cls = some x.m.cls ∧
    CHr Z EL x.s.vm x.s.heap vm0 h ∧ Keep x.s.heap h x.sf0 ∧ Ext Z.heap h ∧ (∀ a ∈ sf, Mine x Z EL vm0 h a) ∧
    (x.nar = true → x.s.WarmedH vm0) ∧ (x.kn = true → vm0.MethodsKnown ∧ vm0.FramesKnown x.below)
/-- **WHERE THE RUN STANDS**: it has come to the frame (pc, Ls, st), the heap is h; at most K cells and S slots have been made; sf: cells that it may write -/
def Hr (x : Cx) (b : Bx) (Z : State) (EL : List (String × Nat)) (K S : Nat) (h : Heap) (sf : List Addr) (pc : Nat) (Ls : Array Slot) (st : List Value) : Prop :=
  Bs x b Z EL ∧ ∃ (T : State) (locs : List Loc) (cells slots : Nat) (vm0 : Vm) (k0 : Nat), Hx x b Z EL K S h sf T locs cells slots vm0 k0 ∧
    ∀ target, Steps x.p.tables x.e x.below (T.setTop (mkF x.m pc Ls st)) target → Steps x.p.tables x.e x.below x.B target
/-- what an end says: it returned v; Q of it, of the heap and of a list of cells that are the caller's to write; only the cells of sf, and new ones, have been written -/
def Pst (Z : State) (EL : List (String × Nat)) (sf : List Addr) (nar : Bool) (rm : Room) (Q : Option Value → Heap → List Addr → Prop) (U : State) (o : Outcome) (U' : State) : Prop :=
  ∃ (v : Option Value) (L : List Loc) (sn : List Addr), o = .returned v ∧ Q v U'.heap sn ∧ Keep U.heap U'.heap sf ∧ (∀ a ∈ sn, (a ∈ sf ∨ U.heap.size ≤ a) ∧ Z.heap.size ≤ a ∧ a < U'.heap.size ∧ Safe Z EL U'.vm U'.heap a) ∧ Fr Z.heap.size L ∧
    CHr Z EL U.vm U.heap U'.vm U'.heap ∧ (nar = true → U.WarmedH U'.vm) ∧ ReturnedEndW U o U' L rm.cells rm.slots
/-- **A METHOD's CONTRACT** at the arguments as', from the heap h, the cells of sf being its to write -/
def Ct (l : Launch) (Z : State) (EL : List (String × Nat)) (y : MethodName) (bytes : ByteArray) (maxL : Nat) (ret : Option FieldType) (rm : Room) (as' : Array Value) (h : Heap) (sf : List Addr) (nar kn : Bool) (Q : Option Value → Heap → List Addr → Prop) : Prop :=
  ∀ ws : List Jvm.Cond, MetFree l y (head1 (Jvm.Cond.code y bytes maxL ret :: ws) rm) (fun a U => a = as' ∧ Z.Warmed39 U.vm ∧ U.heap = h ∧ CHv Z EL U.vm h ∧ Ext Z.heap h ∧ ∀ a ∈ sf, Z.heap.size ≤ a ∧ a < h.size ∧ Safe Z EL U.vm h a)
    (fun _ _ bl s _ => kn = true → s.vm.MethodsKnown ∧ s.vm.FramesKnown bl) (fun _ U o U' => Pst Z EL sf nar rm Q U o U')
def Ends (x : Cx) (b : Bx) (Z : State) (EL : List (String × Nat)) (Q : Option Value → Heap → List Addr → Prop) : Prop :=
  ∃ (s₂ : State) (o : Outcome), Steps x.p.tables x.e x.below x.B s₂ ∧ s₂.status = .running ∧ Ended s₂ x.below o ∧ Pst Z EL x.sf0 x.nar b.R Q x.s o s₂
section Layer
variable {x : Cx} {b : Bx} {Z : State} {EL : List (String × Nat)} {K S : Nat} {h h' : Heap} {sf : List Addr} {pc pc' : Nat} {Ls Ls' : Array Slot} {st st' : List Value} {a0 : Array Value}
theorem Ext.rfl' (h : Heap) : Ext h h := ⟨Nat.le_refl _, fun _ _ q => q⟩
theorem Ext.tr {h1 h2 h3 : Heap} (A : Ext h1 h2) (B : Ext h2 h3) : Ext h1 h3 := ⟨Nat.le_trans A.1 B.1, fun a c q => B.2 a c (A.2 a c q)⟩
theorem Ext.keep {h1 h2 : Heap} (A : Ext h1 h2) (ws : List Addr) : Keep h1 h2 ws := (Keep.refl _ _).ext A
theorem Ext.ofKeep {h1 h2 h3 : Heap} {ws : List Addr} (A : Ext h1 h2) (B : Keep h2 h3 ws) (q : ∀ a ∈ ws, h1.size ≤ a) : Ext h1 h3 := ⟨Nat.le_trans A.1 B.1, fun a c r => B.2.1 a c (A.2 a c r) fun z => absurd (Array.getElem?_eq_some_iff.mp r).1 (Nat.not_lt.mpr (q a z))⟩
/-- the entry: a contract out of a walk -/
theorem Ct.intro {l : Launch} {y : MethodName} {bytes : ByteArray} {maxL : Nat} {ret : Option FieldType} {rm : Room} {as' : Array Value} {nar kn : Bool} {Q : Option Value → Heap → List Addr → Prop} (hpl : plainFor y = true) (hEL : EW Z a0 EL)
    (hef : ∀ m : MethodId, entryFrame m as' maxL = mkF m 0 Ls [])
    (body : ∀ x : Cx, x.l = l → x.nar = nar → x.kn = kn → x.sf0 = sf → x.s.heap = h → Hr x (rm, y, bytes, maxL, ret) Z EL 0 0 h sf 0 Ls [] → Ends x (rm, y, bytes, maxL, ret) Z EL Q) :
    Ct l Z EL y bytes maxL ret rm as' h sf nar kn Q := by
  intro ws
  refine MetFree.of_bodySF hpl hisR ?_
  intro p e s m args below meth c s₁ Bd hml0 hP hK
  obtain ⟨rfl, hZ, hh, hC, hE, hs⟩ := hP
  have hown : s.vm.findClass y.cls = some m.cls := findClass_of_methodNamed Bd.named
  have hnm := (name_of_methodNamed Bd.named Bd.method).1
  have X0 := Stand.of_body Bd
  have e0 : s₁.heap = h := by rw [← hh, Bd.state]; rfl
  subst hh
  have hF := body (p, l, e, s, m, args, below, meth, c, s₁.setTop (entryFrame m args maxL), sf, nar, kn) rfl rfl rfl rfl rfl
    ⟨⟨⟨_, hEL⟩, Bd.exec, Bd.bytes, hml0, Bd.returns, Bd.notSynchronized, hnm⟩, s₁, [], 0, 0, s.vm, s.heap.size,
      ⟨X0, Nat.le_refl _, Nat.le_refl _, e0, Fr.nil _, (State.WarmedH.refl s).since _, Nat.le_refl _, hZ, hown, CHr.refl hC, Keep.refl _ _, hE, fun a ha => ⟨Or.inl ha, hs a ha⟩, fun _ => State.WarmedH.refl s, hK⟩,
      fun t k => castTop (hef m) k⟩
  exact hF
theorem Hr.base (H : Hr x b Z EL K S h sf pc Ls st) : Bs x b Z EL := H.1
theorem Hr.old (H : Hr x b Z EL K S h sf pc Ls st) : Ext Z.heap h := by obtain ⟨-, T, locs, cells, slots, vm0, k0, X, -⟩ := H; exact X.2.2.2.2.2.2.2.2.2.2.2.1
theorem Hr.kept (H : Hr x b Z EL K S h sf pc Ls st) : Keep x.s.heap h x.sf0 := by obtain ⟨-, T, locs, cells, slots, vm0, k0, X, -⟩ := H; exact X.2.2.2.2.2.2.2.2.2.2.1
theorem Hr.lt {a : Addr} (H : Hr x b Z EL K S h sf pc Ls st) (ha : a ∈ sf) : a < h.size := by obtain ⟨-, T, locs, cells, slots, vm0, k0, X, -⟩ := H; exact (X.2.2.2.2.2.2.2.2.2.2.2.2.1 a ha).2.2.1
theorem Hr.ge {a : Addr} (H : Hr x b Z EL K S h sf pc Ls st) (ha : a ∈ sf) : Z.heap.size ≤ a := by obtain ⟨-, T, locs, cells, slots, vm0, k0, X, -⟩ := H; exact (X.2.2.2.2.2.2.2.2.2.2.2.2.1 a ha).2.1
theorem Hr.since (H : Hr x b Z EL K S h sf pc Ls st) {a : Addr} (ha : a ∈ sf) : a ∈ x.sf0 ∨ x.s.heap.size ≤ a := by obtain ⟨-, T, locs, cells, slots, vm0, k0, X, -⟩ := H; exact (X.2.2.2.2.2.2.2.2.2.2.2.2.1 a ha).1
/-- fewer cells to write, more room said to be used -/
theorem Hr.weaken {K' S' : Nat} {sf' : List Addr} (H : Hr x b Z EL K S h sf pc Ls st) (hK : K ≤ K') (hS : S ≤ S') (hsf : ∀ a ∈ sf', a ∈ sf) : Hr x b Z EL K' S' h sf' pc Ls st := by
  obtain ⟨B, T, locs, cells, slots, vm0, k0, ⟨X, h1, h2, h3, h4, h5, h6, h7, h8, h9, h10, h11, h12, h13, h14⟩, k⟩ := H
  exact ⟨B, T, locs, cells, slots, vm0, k0, ⟨X, Nat.le_trans h1 hK, Nat.le_trans h2 hS, h3, h4, h5, h6, h7, h8, h9, h10, h11, fun a ha => h12 a (hsf a ha), h13, h14⟩, k⟩
/-- a step that moves the frame alone -/
theorem Hr.step (H : Hr x b Z EL K S h sf pc Ls st)
    (f : ∀ T : State, At T x.m x.c x.below → x.p.tables.exec = Jvm.exec → x.c.code = b.bytes → ∀ target, Steps x.p.tables x.e x.below (T.setTop (mkF x.m pc' Ls' st')) target → Steps x.p.tables x.e x.below (T.setTop (mkF x.m pc Ls st)) target) : Hr x b Z EL K S h sf pc' Ls' st' := by
  obtain ⟨B, T, locs, cells, slots, vm0, k0, X, k⟩ := H
  exact ⟨B, T, locs, cells, slots, vm0, k0, X, fun t q => k t (f T X.1.here B.2.1 B.2.2.1 t q)⟩
/-- a step of the library that moves the tables at the most -/
theorem Hr.same (H : Hr x b Z EL K S h sf pc Ls st)
    (f : ∀ (T : State) (locs : List Loc) (cells slots : Nat) (vm0 : Vm), Stand x.p x.l x.e b.R (x.s.setVm vm0) x.m x.args x.below x.meth x.c T locs cells slots → T.heap = h → Z.Warmed39 (x.s.setVm vm0).vm → (x.s.setVm vm0).vm.findClass b.y.cls = some x.m.cls → Bs x b Z EL →
      ∃ T', Stand x.p x.l x.e b.R (x.s.setVm vm0) x.m x.args x.below x.meth x.c T' locs cells slots ∧ T'.heap = h ∧ ∀ target, Steps x.p.tables x.e x.below (T'.setTop (mkF x.m pc' Ls' st')) target → Steps x.p.tables x.e x.below (T.setTop (mkF x.m pc Ls st)) target) : Hr x b Z EL K S h sf pc' Ls' st' := by
  obtain ⟨B, T, locs, cells, slots, vm0, k0, ⟨X, h1, h2, h3, h4, h5, h6, h7, h8, hr⟩, k⟩ := H
  obtain ⟨T', X', e', st1⟩ := f T locs cells slots vm0 X h3 h7 h8 B
  exact ⟨B, T', locs, cells, slots, vm0, k0, ⟨X', h1, h2, e', h4, h5, h6, h7, h8, hr⟩, fun t q => k t (st1 t q)⟩
/-- a step of the library that writes one slot of a cell that is the walk's -/
theorem Hr.write {a : Addr} {sl : Nat} {v : Value} (H : Hr x b Z EL K S h sf pc Ls st) (ha : a ∈ sf)
    (f : ∀ (T : State) (locs : List Loc) (cells slots : Nat) (vm0 : Vm), Stand x.p x.l x.e b.R (x.s.setVm vm0) x.m x.args x.below x.meth x.c T locs cells slots → T.heap = h → Z.Warmed39 (x.s.setVm vm0).vm → (x.s.setVm vm0).vm.findClass b.y.cls = some x.m.cls → Bs x b Z EL →
      ∃ T' h', Stand x.p x.l x.e b.R (x.s.setVm vm0) x.m x.args x.below x.meth x.c T' (locs ++ [⟨a, sl⟩]) cells slots ∧ T'.heap = h' ∧ Wr h h' a sl v ∧ ∀ target, Steps x.p.tables x.e x.below (T'.setTop (mkF x.m pc' Ls' st')) target → Steps x.p.tables x.e x.below (T.setTop (mkF x.m pc Ls st)) target) :
    ∃ h', Wr h h' a sl v ∧ Hr x b Z EL K S h' sf pc' Ls' st' := by
  obtain ⟨B, T, locs, cells, slots, vm0, k0, ⟨X, h1, h2, h3, h4, h5, h6, h7, h8, h9, h10, h11, h12, h13, h14⟩, k⟩ := H
  obtain ⟨T', h', X', e', W, st1⟩ := f T locs cells slots vm0 X h3 h7 h8 B
  have hm := h12 a ha
  have q1 := CHv.wrStep W hm.2.2.2 h9.1
  refine ⟨h', W, B, T', _, cells, slots, vm0, k0, ⟨X', h1, h2, e', Fr.snoc X' h4 hm.2.1, h5, by rw [W.size]; exact h6, h7, h8, h9.trans (CHr.wr W hm.2.2.2 h9.1), h10.wr W hm.1, Ext.ofKeep h11 (Keep.of_wr W) (allS hm.2.1 all0), fun y hy => ?_, h13, h14⟩, fun t q => k t (st1 t q)⟩
  obtain ⟨y1, y2, y3, y4⟩ := h12 y hy
  exact ⟨y1, y2, by rw [W.size]; exact y3, Safe.wr W hm.2.2.2 h9.1 y4⟩
/-- a step of the library that makes one cell -/
theorem Hr.alloc {n : Nat} {P : Heap → Prop} (H : Hr x b Z EL K S h sf pc Ls st) (hc : K + 1 ≤ b.R.cells) (hl : S + n ≤ b.R.slots) (hlt : ∀ h', P h' → h.size < h'.size)
    (f : ∀ (T : State) (locs : List Loc) (cells slots : Nat) (vm0 : Vm), Stand x.p x.l x.e b.R (x.s.setVm vm0) x.m x.args x.below x.meth x.c T locs cells slots → T.heap = h → Z.Warmed39 (x.s.setVm vm0).vm → (x.s.setVm vm0).vm.findClass b.y.cls = some x.m.cls → Bs x b Z EL → cells + 1 ≤ b.R.cells → slots + n ≤ b.R.slots →
      ∃ T' h', Stand x.p x.l x.e b.R (x.s.setVm vm0) x.m x.args x.below x.meth x.c T' locs (cells + 1) (slots + n) ∧ T'.heap = h' ∧ Ext h h' ∧ P h' ∧ ∀ target, Steps x.p.tables x.e x.below (T'.setTop (mkF x.m pc' Ls' st')) target → Steps x.p.tables x.e x.below (T.setTop (mkF x.m pc Ls st)) target) :
    ∃ h', Ext h h' ∧ P h' ∧ Hr x b Z EL (K + 1) (S + n) h' (h.size :: sf) pc' Ls' st' := by
  obtain ⟨B, T, locs, cells, slots, vm0, k0, ⟨X, h1, h2, h3, h4, h5, h6, h7, h8, h9, h10, h11, h12, h13, h14⟩, k⟩ := H
  obtain ⟨T', h', X', e', E, hp, st1⟩ := f T locs cells slots vm0 X h3 h7 h8 B (by omega) (by omega)
  refine ⟨h', E, hp, B, T', _, _, _, vm0, k0, ⟨X', by omega, by omega, e', h4, h5, Nat.le_trans h6 E.1, h7, h8, h9.trans (CHr.ext E h9.1), h10.ext E, Ext.tr h11 E, fun y hy => ?_, h13, h14⟩, fun t q => k t (st1 t q)⟩
  rcases List.mem_cons.mp hy with rfl | hy
  · exact ⟨Or.inr h10.1, h11.1, hlt h' hp, Safe.ext E h9.1 (Safe.new (Nat.le_refl _))⟩
  · obtain ⟨y1, y2, y3, y4⟩ := h12 y hy
    exact ⟨y1, y2, Nat.lt_of_lt_of_le y3 E.1, Safe.ext E h9.1 y4⟩
/-- the payer: a contract as the library's calls take it -/
theorem Ct.backS {l : Launch} {y : MethodName} {bytes : ByteArray} {maxL : Nat} {ret : Option FieldType} {rm : Room} {as' : Array Value} {nar kn : Bool} {Q : Option Value → Heap → List Addr → Prop} (C : Ct l Z EL y bytes maxL ret rm as' h sf nar kn Q)
    {p : Program} {e : Env} {R : Room} {below : List Frame} {s : State} {vm0 : Vm} {args a1 : Array Value} {len W : Nat} (hZ : Z.Warmed39 vm0) (wc : (Jvm.Cond.code y bytes maxL ret).before a0 Z = true) (wz : (Jvm.Cond.initialized y.cls).before a0 Z = true) (hf : rm.frames + 1 ≤ R.frames) (hl : W + (maxL + 11) + rm.locals ≤ R.locals)
    (hEL : EW Z a1 EL) (H : CHv Z EL vm0 h) (hE : Ext Z.heap h) (hsf : ∀ a ∈ sf, Z.heap.size ≤ a ∧ a < h.size ∧ Safe Z EL vm0 h a) (hkn : kn = true → vm0.MethodsKnown ∧ vm0.FramesKnown below) :
    BackS l R p e below (s.setVm vm0) args y len W (fun A a => a = as' ∧ A.U.heap = h ∧ A.cells + rm.cells ≤ R.cells ∧ A.slots + rm.slots ≤ R.slots)
      (fun A _ v B => ∃ (L : List Loc) (sn : List Addr), Q v B.U.heap sn ∧ Keep h B.U.heap sf ∧ (∀ a ∈ sn, (a ∈ sf ∨ h.size ≤ a) ∧ Z.heap.size ≤ a ∧ a < B.U.heap.size ∧ Safe Z EL B.U.vm B.U.heap a) ∧ Fr Z.heap.size L ∧ B.locs = A.locs ++ L ∧ B.cells = A.cells + rm.cells ∧ B.slots = A.slots + rm.slots ∧
        CHr Z EL vm0 h B.U.vm B.U.heap ∧ (nar = true → (s.setVm vm0).WarmedH B.U.vm)) :=
  BackS.of_freeWG (bytes := bytes) (maxL := maxL) (ret := ret)
    (E := fun _ first o t L k n => k = rm.cells ∧ n = rm.slots ∧ ∃ (v : Option Value) (sn : List Addr), o = .returned v ∧ Q v t.heap sn ∧ Keep first.heap t.heap sf ∧ (∀ a ∈ sn, (a ∈ sf ∨ first.heap.size ≤ a) ∧ Z.heap.size ≤ a ∧ a < t.heap.size ∧ Safe Z EL t.vm t.heap a) ∧ Fr Z.heap.size L ∧ CHr Z EL first.vm first.heap t.vm t.heap ∧ (nar = true → first.WarmedH t.vm)) (C []) hf hl
    (fun m meth c A a Y hp => have hU : Z.Warmed39 A.U.vm := wtrans (s := s.setVm vm0) hZ Y.warmed
      ⟨by show (Jvm.Cond.and _ .tt).before a A.U = true; rw [Cond.before_and, mv hU wc]; rfl, mv hU wc, mv hU wz, hp.2.2.1, hp.2.2.2⟩)
    (fun m meth c A a g mk Y hp => ⟨hp.1, wtrans (s := s.setVm vm0) hZ Y.warmed, hp.2.1, (CHv.at Y hZ hEL H).1, hE, fun z hz => ⟨(hsf z hz).1, (hsf z hz).2.1, (CHv.at Y hZ hEL H).safe (hsf z hz).2.1 (hsf z hz).2.2⟩⟩)
    (fun m meth c A a g mk Y _ hg hk => known_frames Y hg (hkn hk).1 (hkn hk).2)
    (fun _ _ _ _ ⟨v, L, sn, q1, q2, q3, q4, q5, q6, q7, q8⟩ => ⟨L, _, _, q8, rfl, rfl, v, sn, q1, q2, q3, q4, q5, q6, q7⟩)
    (fun m meth c A a g mk v t L k n Y hp _ _ ⟨e1, e2, v', sn, q1, q2, q3, q4, q5, q6, q7⟩ => by
      cases q1; subst e1 e2
      obtain ⟨-, rfl, -⟩ := hp
      exact ⟨L, sn, q2, q3, q4, q5, rfl, rfl, rfl, (CHv.at Y hZ hEL H).trans q6, fun hn => State.WarmedH.trans (t := A.U) Y.warmed (q7 hn)⟩)
/-- behind a call: from what the library hands out to where the run stands -/
theorem Hr.after {rm : Room} {sf' : List Addr} {Q : Option Value → Heap → List Addr → Prop} (B : Bs x b Z EL) {T : State} {locs : List Loc} {cells slots : Nat} {vm0 : Vm} {k0 : Nat} (X : Hx x b Z EL K S h sf T locs cells slots vm0 k0)
    (k : ∀ target, Steps x.p.tables x.e x.below (T.setTop (mkF x.m pc Ls st)) target → Steps x.p.tables x.e x.below x.B target) (sub : ∀ a ∈ sf', a ∈ sf)
    {P : Pt} (X' : Stand x.p x.l x.e b.R ((x.s.setVm vm0).setVm P.U.vm) x.m x.args x.below x.meth x.c P.U P.locs P.cells P.slots) (hS : (x.s.setVm vm0).Since P.U.vm P.U.heap.size) (hgr : T.heap.size ≤ P.U.heap.size) {v : Option Value}
    (hp : ∃ (L : List Loc) (sn : List Addr), Q v P.U.heap sn ∧ Keep h P.U.heap sf' ∧ (∀ a ∈ sn, (a ∈ sf' ∨ h.size ≤ a) ∧ Z.heap.size ≤ a ∧ a < P.U.heap.size ∧ Safe Z EL P.U.vm P.U.heap a) ∧ Fr Z.heap.size L ∧ P.locs = locs ++ L ∧ P.cells = cells + rm.cells ∧ P.slots = slots + rm.slots ∧
        CHr Z EL vm0 h P.U.vm P.U.heap ∧ (x.nar = true → (x.s.setVm vm0).WarmedH P.U.vm))
    (hst : Steps x.p.tables x.e x.below (T.setTop (mkF x.m pc Ls st)) (P.U.setTop (mkF x.m pc' Ls st'))) :
    ∃ (h' : Heap) (sn : List Addr), Q v h' sn ∧ Keep h h' sf' ∧ Hr x b Z EL (K + rm.cells) (S + rm.slots) h' (sn ++ sf) pc' Ls st' := by
  obtain ⟨X, h1, h2, h3, h4, h5, h6, h7, h8, h9, h10, h11, h12, h13, h14⟩ := X
  obtain ⟨L, sn, q1, q2, q3, q4, q5, q6, q7, q8, q9⟩ := hp
  have hsf0 : ∀ z ∈ sf', z ∈ x.sf0 ∨ x.s.heap.size ≤ z := fun z hz => (h12 z (sub z hz)).1
  refine ⟨_, sn, q1, q2, B, P.U, P.locs, P.cells, P.slots, P.U.vm, P.U.heap.size, ⟨X', by omega, by omega, rfl, by rw [q5]; exact h4.app q4, h5.trans hS (by rw [h3] at hgr; exact Nat.le_trans h6 hgr), Nat.le_refl _, State.Warmed39.trans (t := x.s.setVm vm0) h7 hS.1, (hS.1.alike.findClass _ _).trans h8, h9.trans q8, h10.trans q2 hsf0,
    Ext.ofKeep h11 q2 (fun z hz => (h12 z (sub z hz)).2.1), fun z hz => ?_, fun hn => State.WarmedH.trans (t := x.s.setVm vm0) (h13 hn) (q9 hn), fun hk => ⟨Vm.MethodsKnown.alikeC hS.1.alike (h14 hk).1, Vm.FramesKnown.alikeC hS.1.alike (h14 hk).2⟩⟩, fun t q => k t (hst.trans q)⟩
  rcases List.mem_append.mp hz with hz | hz
  · obtain ⟨z1, z2, z3, z4⟩ := q3 z hz
    refine ⟨z1.elim (hsf0 z) (fun q => Or.inr (Nat.le_trans h10.1 q)), z2, z3, z4⟩
  · obtain ⟨z1, z2, z3, z4⟩ := h12 z hz
    exact ⟨z1, z2, Nat.lt_of_lt_of_le z3 q2.1, q8.safe z3 z4⟩
end Layer
end Jvm.Pilot.@@N@@
namespace Jvm.Pilot.@@N@@
open Jvm Jvm.ClassFile Sem Op Lib Bundle Jvm.Free Jvm.Stand Jvm.LawKit Jvm.RoadKit
section Layer2
variable {x : Cx} {b : Bx} {Z : State} {EL : List (String × Nat)} {K S : Nat} {h h' : Heap} {sf : List Addr} {pc pc' : Nat} {Ls Ls' : Array Slot} {st st' : List Value} {a0 : Array Value}
/-! ### plain steps -/
theorem Hr.iloadN {k : Fin 4} {v : Int32} (H : Hr x b Z EL K S h sf pc Ls st) (hd : decode b.bytes pc = .ok (.iload_n k, 1)) (hl : Ls[k.val]? = some (.val (.int v)) := by rfl) (hpc : pc + 1 = pc' := by rfl) : Hr x b Z EL K S h sf pc' Ls (.int v :: st) := by
  subst hpc; exact H.step fun T A hx hby t q => XS.iloadN A hx rfl (hb hby hd) hl q
theorem Hr.iload {k : Nat} {v : Int32} (H : Hr x b Z EL K S h sf pc Ls st) (hd : decode b.bytes pc = .ok (.iload k, 2)) (hl : Ls[k]? = some (.val (.int v)) := by rfl) (hpc : pc + 2 = pc' := by rfl) : Hr x b Z EL K S h sf pc' Ls (.int v :: st) := by
  subst hpc; exact H.step fun T A hx hby t q => XS.iload A hx rfl (hb hby hd) hl q
theorem Hr.aloadN {k : Fin 4} {v : Value} (H : Hr x b Z EL K S h sf pc Ls st) (hd : decode b.bytes pc = .ok (.aload_n k, 1)) (hl : Ls[k.val]? = some (.val v) := by rfl) (hv : v.isRef = true := by rfl) (hpc : pc + 1 = pc' := by rfl) : Hr x b Z EL K S h sf pc' Ls (v :: st) := by
  subst hpc; exact H.step fun T A hx hby t q => XS.aloadN A hx rfl (hb hby hd) hl hv q
theorem Hr.aload {k : Nat} {v : Value} (H : Hr x b Z EL K S h sf pc Ls st) (hd : decode b.bytes pc = .ok (.aload k, 2)) (hl : Ls[k]? = some (.val v) := by rfl) (hv : v.isRef = true := by rfl) (hpc : pc + 2 = pc' := by rfl) : Hr x b Z EL K S h sf pc' Ls (v :: st) := by
  subst hpc; exact H.step fun T A hx hby t q => XS.aload A hx rfl (hb hby hd) hl hv q
theorem Hr.iconst {i : Int} {v : Int32} (H : Hr x b Z EL K S h sf pc Ls st) (hd : decode b.bytes pc = .ok (.iconst i, 1)) (hv : Int32.ofInt i = v := by first | rfl | decide) (hpc : pc + 1 = pc' := by rfl) : Hr x b Z EL K S h sf pc' Ls (.int v :: st) := by
  subst hpc hv; exact H.step fun T A hx hby t q => XS.iconst A hx rfl (hb hby hd) q
theorem Hr.bipush {i : Int} {v : Int32} (H : Hr x b Z EL K S h sf pc Ls st) (hd : decode b.bytes pc = .ok (.bipush i, 2)) (hv : (Int8.ofInt i).toInt32 = v := by first | rfl | decide) (hpc : pc + 2 = pc' := by rfl) : Hr x b Z EL K S h sf pc' Ls (.int v :: st) := by
  subst hpc hv; exact H.step fun T A hx hby t q => XS.bipush A hx rfl (hb hby hd) q
theorem Hr.sipush {i : Int} {v : Int32} (H : Hr x b Z EL K S h sf pc Ls st) (hd : decode b.bytes pc = .ok (.sipush i, 3)) (hv : (Int16.ofInt i).toInt32 = v := by first | rfl | decide) (hpc : pc + 3 = pc' := by rfl) : Hr x b Z EL K S h sf pc' Ls (.int v :: st) := by
  subst hpc hv; exact H.step fun T A hx hby t q => XS.sipush A hx rfl (hb hby hd) q
theorem Hr.aconstNull (H : Hr x b Z EL K S h sf pc Ls st) (hd : decode b.bytes pc = .ok (.aconst_null, 1)) (hpc : pc + 1 = pc' := by rfl) : Hr x b Z EL K S h sf pc' Ls (.null :: st) := by
  subst hpc; exact H.step fun T A hx hby t q => XS.aconstNull A hx rfl (hb hby hd) q
theorem Hr.iadd {u w v : Int32} (H : Hr x b Z EL K S h sf pc Ls (.int w :: .int u :: st)) (hd : decode b.bytes pc = .ok (.iadd, 1)) (hv : u + w = v := by rfl) (hpc : pc + 1 = pc' := by rfl) : Hr x b Z EL K S h sf pc' Ls (.int v :: st) := by
  subst hpc hv; exact H.step fun T A hx hby t q => XS.iadd A hx rfl (hb hby hd) rfl q
theorem Hr.isub {u w v : Int32} (H : Hr x b Z EL K S h sf pc Ls (.int w :: .int u :: st)) (hd : decode b.bytes pc = .ok (.isub, 1)) (hv : u - w = v := by rfl) (hpc : pc + 1 = pc' := by rfl) : Hr x b Z EL K S h sf pc' Ls (.int v :: st) := by
  subst hpc hv; exact H.step fun T A hx hby t q => XS.isub A hx rfl (hb hby hd) rfl q
theorem Hr.imul {u w v : Int32} (H : Hr x b Z EL K S h sf pc Ls (.int w :: .int u :: st)) (hd : decode b.bytes pc = .ok (.imul, 1)) (hv : u * w = v := by rfl) (hpc : pc + 1 = pc' := by rfl) : Hr x b Z EL K S h sf pc' Ls (.int v :: st) := by
  subst hpc hv; exact H.step fun T A hx hby t q => XS.imul A hx rfl (hb hby hd) rfl q
theorem Hr.iand {u w v : Int32} (H : Hr x b Z EL K S h sf pc Ls (.int w :: .int u :: st)) (hd : decode b.bytes pc = .ok (.iand, 1)) (hv : u &&& w = v := by rfl) (hpc : pc + 1 = pc' := by rfl) : Hr x b Z EL K S h sf pc' Ls (.int v :: st) := by
  subst hpc hv; exact H.step fun T A hx hby t q => XS.iand A hx rfl (hb hby hd) rfl q
theorem Hr.ior {u w v : Int32} (H : Hr x b Z EL K S h sf pc Ls (.int w :: .int u :: st)) (hd : decode b.bytes pc = .ok (.ior, 1)) (hv : u ||| w = v := by rfl) (hpc : pc + 1 = pc' := by rfl) : Hr x b Z EL K S h sf pc' Ls (.int v :: st) := by
  subst hpc hv; exact H.step fun T A hx hby t q => XT.ior A hx rfl (hb hby hd) rfl q
theorem Hr.ixor {u w v : Int32} (H : Hr x b Z EL K S h sf pc Ls (.int w :: .int u :: st)) (hd : decode b.bytes pc = .ok (.ixor, 1)) (hv : u ^^^ w = v := by rfl) (hpc : pc + 1 = pc' := by rfl) : Hr x b Z EL K S h sf pc' Ls (.int v :: st) := by
  subst hpc hv; exact H.step fun T A hx hby t q => XT.ixor A hx rfl (hb hby hd) rfl q
theorem Hr.ishl {u w v : Int32} (H : Hr x b Z EL K S h sf pc Ls (.int w :: .int u :: st)) (hd : decode b.bytes pc = .ok (.ishl, 1)) (hv : u <<< (w &&& 31) = v := by rfl) (hpc : pc + 1 = pc' := by rfl) : Hr x b Z EL K S h sf pc' Ls (.int v :: st) := by
  subst hpc hv; exact H.step fun T A hx hby t q => XT.ishl A hx rfl (hb hby hd) rfl q
theorem Hr.ishr {u w v : Int32} (H : Hr x b Z EL K S h sf pc Ls (.int w :: .int u :: st)) (hd : decode b.bytes pc = .ok (.ishr, 1)) (hv : u >>> (w &&& 31) = v := by rfl) (hpc : pc + 1 = pc' := by rfl) : Hr x b Z EL K S h sf pc' Ls (.int v :: st) := by
  subst hpc hv; exact H.step fun T A hx hby t q => XT.ishr A hx rfl (hb hby hd) rfl q
theorem Hr.iushr {u w v : Int32} (H : Hr x b Z EL K S h sf pc Ls (.int w :: .int u :: st)) (hd : decode b.bytes pc = .ok (.iushr, 1)) (hv : (u.toUInt32 >>> (w &&& 31).toUInt32).toInt32 = v := by rfl) (hpc : pc + 1 = pc' := by rfl) : Hr x b Z EL K S h sf pc' Ls (.int v :: st) := by
  subst hpc hv; exact H.step fun T A hx hby t q => XT.iushr A hx rfl (hb hby hd) rfl q
theorem Hr.ineg {u v : Int32} (H : Hr x b Z EL K S h sf pc Ls (.int u :: st)) (hd : decode b.bytes pc = .ok (.ineg, 1)) (hv : -u = v := by rfl) (hpc : pc + 1 = pc' := by rfl) : Hr x b Z EL K S h sf pc' Ls (.int v :: st) := by
  subst hpc hv; exact H.step fun T A hx hby t q => XS.ineg A hx rfl (hb hby hd) rfl q
theorem Hr.irem {u w v : Int32} (H : Hr x b Z EL K S h sf pc Ls (.int w :: .int u :: st)) (hd : decode b.bytes pc = .ok (.irem, 1)) (hw : w ≠ 0) (hv : u % w = v := by rfl) (hpc : pc + 1 = pc' := by rfl) : Hr x b Z EL K S h sf pc' Ls (.int v :: st) := by
  subst hpc hv; exact H.step fun T A hx hby t q => XS.irem A hx rfl (hb hby hd) rfl hw (by rw [irem_eq_mod]; exact q)
theorem Hr.idiv {u w v : Int32} (H : Hr x b Z EL K S h sf pc Ls (.int w :: .int u :: st)) (hd : decode b.bytes pc = .ok (.idiv, 1)) (hw : w ≠ 0) (hv : u / w = v := by rfl) (hpc : pc + 1 = pc' := by rfl) : Hr x b Z EL K S h sf pc' Ls (.int v :: st) := by
  subst hpc hv; exact H.step fun T A hx hby t q => XS.idiv A hx rfl (hb hby hd) rfl hw q
theorem Hr.i2c {u v : Int32} (H : Hr x b Z EL K S h sf pc Ls (.int u :: st)) (hd : decode b.bytes pc = .ok (.i2c, 1)) (hv : u.toUInt32.toUInt16.toUInt32.toInt32 = v := by rfl) (hpc : pc + 1 = pc' := by rfl) : Hr x b Z EL K S h sf pc' Ls (.int v :: st) := by
  subst hpc hv; exact H.step fun T A hx hby t q => XT.i2c A hx rfl (hb hby hd) rfl q
theorem Hr.i2b {u v : Int32} (H : Hr x b Z EL K S h sf pc Ls (.int u :: st)) (hd : decode b.bytes pc = .ok (.i2b, 1)) (hv : u.toInt8.toInt32 = v := by rfl) (hpc : pc + 1 = pc' := by rfl) : Hr x b Z EL K S h sf pc' Ls (.int v :: st) := by
  subst hpc hv; exact H.step fun T A hx hby t q => XT.i2b A hx rfl (hb hby hd) rfl q
theorem Hr.dup {v : Value} (H : Hr x b Z EL K S h sf pc Ls (v :: st)) (hd : decode b.bytes pc = .ok (.dup, 1)) (hc : v.category = 1 := by rfl) (hpc : pc + 1 = pc' := by rfl) : Hr x b Z EL K S h sf pc' Ls (v :: v :: st) := by
  subst hpc; exact H.step fun T A hx hby t q => XS.dup A hx rfl (hb hby hd) rfl hc q
theorem Hr.dupX1 {v w : Value} (H : Hr x b Z EL K S h sf pc Ls (v :: w :: st)) (hd : decode b.bytes pc = .ok (.dup_x1, 1)) (hc : v.category = 1 := by rfl) (hc' : w.category = 1 := by rfl) (hpc : pc + 1 = pc' := by rfl) : Hr x b Z EL K S h sf pc' Ls (v :: w :: v :: st) := by
  subst hpc; exact H.step fun T A hx hby t q => XT.dupX1 A hx rfl (hb hby hd) rfl hc hc' q
theorem Hr.pop {v : Value} (H : Hr x b Z EL K S h sf pc Ls (v :: st)) (hd : decode b.bytes pc = .ok (.pop, 1)) (hc : v.category = 1 := by rfl) (hpc : pc + 1 = pc' := by rfl) : Hr x b Z EL K S h sf pc' Ls st := by
  subst hpc; exact H.step fun T A hx hby t q => XT.pop A hx rfl (hb hby hd) rfl hc q
theorem Hr.istoreN {k : Fin 4} {v : Int32} (H : Hr x b Z EL K S h sf pc Ls (.int v :: st)) (hd : decode b.bytes pc = .ok (.istore_n k, 1)) (hl : storeLocals Ls k.val (.int v) = some Ls' := by rfl) (hpc : pc + 1 = pc' := by rfl) : Hr x b Z EL K S h sf pc' Ls' st := by
  subst hpc; exact H.step fun T A hx hby t q => XS.istoreN A hx rfl (hb hby hd) rfl hl q
theorem Hr.istore {k : Nat} {v : Int32} (H : Hr x b Z EL K S h sf pc Ls (.int v :: st)) (hd : decode b.bytes pc = .ok (.istore k, 2)) (hl : storeLocals Ls k (.int v) = some Ls' := by rfl) (hpc : pc + 2 = pc' := by rfl) : Hr x b Z EL K S h sf pc' Ls' st := by
  subst hpc; exact H.step fun T A hx hby t q => XS.istore A hx rfl (hb hby hd) rfl hl q
theorem Hr.astoreN {k : Fin 4} {v : Value} (H : Hr x b Z EL K S h sf pc Ls (v :: st)) (hd : decode b.bytes pc = .ok (.astore_n k, 1)) (hl : storeLocals Ls k.val v = some Ls' := by rfl) (hv : v.isRef = true := by rfl) (hpc : pc + 1 = pc' := by rfl) : Hr x b Z EL K S h sf pc' Ls' st := by
  subst hpc; exact H.step fun T A hx hby t q => XS.astoreN A hx rfl (hb hby hd) rfl hv hl q
theorem Hr.astore {k : Nat} {v : Value} (H : Hr x b Z EL K S h sf pc Ls (v :: st)) (hd : decode b.bytes pc = .ok (.astore k, 2)) (hl : storeLocals Ls k v = some Ls' := by rfl) (hv : v.isRef = true := by rfl) (hpc : pc + 2 = pc' := by rfl) : Hr x b Z EL K S h sf pc' Ls' st := by
  subst hpc; exact H.step fun T A hx hby t q => XS.astore A hx rfl (hb hby hd) rfl hv hl q
theorem Hr.iinc {k : Nat} {cst : Int} {u v : Int32} (H : Hr x b Z EL K S h sf pc Ls st) (hd : decode b.bytes pc = .ok (.iinc k cst, 3)) (hl : Ls[k]? = some (.val (.int u)) := by rfl) (hv : u + Int32.ofInt cst = v := by rfl) (hl' : storeLocals Ls k (.int v) = some Ls' := by rfl) (hpc : pc + 3 = pc' := by rfl) : Hr x b Z EL K S h sf pc' Ls' st := by
  subst hpc hv; exact H.step fun T A hx hby t q => XS.iinc A hx rfl (hb hby hd) hl hl' q
theorem Hr.goto {o : Int} (H : Hr x b Z EL K S h sf pc Ls st) (hd : decode b.bytes pc = .ok (.goto o, 3)) (hp : ((pc : Int) + o).toNat = pc' := by decide) (ho : 0 ≤ (pc : Int) + o := by decide) : Hr x b Z EL K S h sf pc' Ls st := by
  exact H.step fun T A hx hby t q => XS.goto A hx rfl (pc0 := pc) rfl (hb hby hd) ho hp q
theorem Hr.ifT {cd : ClassFile.Cond} {o : Int} {u : Int32} (H : Hr x b Z EL K S h sf pc Ls (.int u :: st)) (hd : decode b.bytes pc = .ok (.ifCond cd o, 3)) (hc : ifCond.holds cd u = true) (hp : ((pc : Int) + o).toNat = pc' := by decide) (ho : 0 ≤ (pc : Int) + o := by decide) : Hr x b Z EL K S h sf pc' Ls st := by
  exact H.step fun T A hx hby t q => XS.ifYes A hx rfl (pc0 := pc) rfl (hb hby hd) rfl hc ho hp q
theorem Hr.ifF {cd : ClassFile.Cond} {o : Int} {u : Int32} (H : Hr x b Z EL K S h sf pc Ls (.int u :: st)) (hd : decode b.bytes pc = .ok (.ifCond cd o, 3)) (hc : ifCond.holds cd u = false) (hpc : pc + 3 = pc' := by rfl) : Hr x b Z EL K S h sf pc' Ls st := by
  subst hpc; exact H.step fun T A hx hby t q => XS.ifNo A hx rfl (hb hby hd) rfl hc q
theorem Hr.icmpT {cd : ClassFile.Cond} {o : Int} {u w : Int32} (H : Hr x b Z EL K S h sf pc Ls (.int w :: .int u :: st)) (hd : decode b.bytes pc = .ok (.if_icmp cd o, 3)) (hc : if_icmp.holds cd u w = true) (hp : ((pc : Int) + o).toNat = pc' := by decide) (ho : 0 ≤ (pc : Int) + o := by decide) : Hr x b Z EL K S h sf pc' Ls st := by
  exact H.step fun T A hx hby t q => XS.icmpYes A hx rfl (pc0 := pc) rfl (hb hby hd) rfl hc ho hp q
theorem Hr.icmpF {cd : ClassFile.Cond} {o : Int} {u w : Int32} (H : Hr x b Z EL K S h sf pc Ls (.int w :: .int u :: st)) (hd : decode b.bytes pc = .ok (.if_icmp cd o, 3)) (hc : if_icmp.holds cd u w = false) (hpc : pc + 3 = pc' := by rfl) : Hr x b Z EL K S h sf pc' Ls st := by
  subst hpc; exact H.step fun T A hx hby t q => XS.icmpNo A hx rfl (hb hby hd) rfl hc q
theorem Hr.acmpT {cd : ClassFile.ACond} {o : Int} {u w : Value} (H : Hr x b Z EL K S h sf pc Ls (w :: u :: st)) (hd : decode b.bytes pc = .ok (.if_acmp cd o, 3)) (hc : XT.acmp cd u w = true) (hu : u.isRef = true := by rfl) (hw : w.isRef = true := by rfl) (hp : ((pc : Int) + o).toNat = pc' := by decide) (ho : 0 ≤ (pc : Int) + o := by decide) : Hr x b Z EL K S h sf pc' Ls st := by
  exact H.step fun T A hx hby t q => XT.acmpYes A hx rfl (pc0 := pc) rfl (hb hby hd) rfl hu hw hc ho hp q
theorem Hr.acmpF {cd : ClassFile.ACond} {o : Int} {u w : Value} (H : Hr x b Z EL K S h sf pc Ls (w :: u :: st)) (hd : decode b.bytes pc = .ok (.if_acmp cd o, 3)) (hc : XT.acmp cd u w = false) (hu : u.isRef = true := by rfl) (hw : w.isRef = true := by rfl) (hpc : pc + 3 = pc' := by rfl) : Hr x b Z EL K S h sf pc' Ls st := by
  subst hpc; exact H.step fun T A hx hby t q => XT.acmpNo A hx rfl (hb hby hd) rfl hu hw hc q
theorem Hr.ifnullT {o : Int} (H : Hr x b Z EL K S h sf pc Ls (.null :: st)) (hd : decode b.bytes pc = .ok (.ifnull o, 3)) (hp : ((pc : Int) + o).toNat = pc' := by decide) (ho : 0 ≤ (pc : Int) + o := by decide) : Hr x b Z EL K S h sf pc' Ls st := by
  exact H.step fun T A hx hby t q => XS.ifnullYes A hx rfl (pc0 := pc) rfl (hb hby hd) rfl ho hp q
theorem Hr.ifnullF {o : Int} {a : Addr} (H : Hr x b Z EL K S h sf pc Ls (.ref a :: st)) (hd : decode b.bytes pc = .ok (.ifnull o, 3)) (hpc : pc + 3 = pc' := by rfl) : Hr x b Z EL K S h sf pc' Ls st := by
  subst hpc; exact H.step fun T A hx hby t q => XS.ifnullNo A hx rfl (hb hby hd) rfl q
theorem Hr.ifnonnullT {o : Int} {a : Addr} (H : Hr x b Z EL K S h sf pc Ls (.ref a :: st)) (hd : decode b.bytes pc = .ok (.ifnonnull o, 3)) (hp : ((pc : Int) + o).toNat = pc' := by decide) (ho : 0 ≤ (pc : Int) + o := by decide) : Hr x b Z EL K S h sf pc' Ls st := by
  exact H.step fun T A hx hby t q => XT.ifnonnullYes A hx rfl (pc0 := pc) rfl (hb hby hd) rfl ho hp q
theorem Hr.ifnonnullF {o : Int} (H : Hr x b Z EL K S h sf pc Ls (.null :: st)) (hd : decode b.bytes pc = .ok (.ifnonnull o, 3)) (hpc : pc + 3 = pc' := by rfl) : Hr x b Z EL K S h sf pc' Ls st := by
  subst hpc; exact H.step fun T A hx hby t q => XT.ifnonnullNo A hx rfl (hb hby hd) rfl q
/-! ### longs -/
theorem Hr.lloadN {k : Fin 4} {v : Int64} (H : Hr x b Z EL K S h sf pc Ls st) (hd : decode b.bytes pc = .ok (.lload_n k, 1)) (hl : Ls[k.val]? = some (.val (.long v)) := by rfl) (hpc : pc + 1 = pc' := by rfl) : Hr x b Z EL K S h sf pc' Ls (.long v :: st) := by
  subst hpc; exact H.step fun T A hx hby t q => XT.lloadN A hx rfl (hb hby hd) hl q
theorem Hr.lushr {u : Int64} {w : Int32} {v : Int64} (H : Hr x b Z EL K S h sf pc Ls (.int w :: .long u :: st)) (hd : decode b.bytes pc = .ok (.lushr, 1)) (hv : XT.ushrL u w = v := by rfl) (hpc : pc + 1 = pc' := by rfl) : Hr x b Z EL K S h sf pc' Ls (.long v :: st) := by
  subst hpc hv; exact H.step fun T A hx hby t q => XT.lushr A hx rfl (hb hby hd) rfl q
theorem Hr.land {u w v : Int64} (H : Hr x b Z EL K S h sf pc Ls (.long w :: .long u :: st)) (hd : decode b.bytes pc = .ok (.land, 1)) (hv : u &&& w = v := by rfl) (hpc : pc + 1 = pc' := by rfl) : Hr x b Z EL K S h sf pc' Ls (.long v :: st) := by
  subst hpc hv; exact H.step fun T A hx hby t q => XT.land A hx rfl (hb hby hd) rfl q
theorem Hr.l2i {u : Int64} {v : Int32} (H : Hr x b Z EL K S h sf pc Ls (.long u :: st)) (hd : decode b.bytes pc = .ok (.l2i, 1)) (hv : u.toInt32 = v := by rfl) (hpc : pc + 1 = pc' := by rfl) : Hr x b Z EL K S h sf pc' Ls (.int v :: st) := by
  subst hpc hv; exact H.step fun T A hx hby t q => XT.l2i A hx rfl (hb hby hd) rfl q
/-! ### constants, fields, statics, casts -/
theorem Hr.ldcI {index : Nat} {v : Int32} (H : Hr x b Z EL K S h sf pc Ls st) (w : (Jvm.Cond.constant b.y.cls index v).before a0 Z = true) (hd : decode b.bytes pc = .ok (.ldc index, 2)) (hpc : pc + 2 = pc' := by rfl) : Hr x b Z EL K S h sf pc' Ls (.int v :: st) := by
  subst hpc
  exact H.same fun T locs cells slots vm0 X eT hZ hown B => ⟨T, X, eT, X.ldcInt B.2.1 hown (mvT hZ w) (g := mkF x.m pc Ls st) rfl (hb B.2.2.1 hd)⟩
theorem Hr.ldcL {index : Nat} {v : Int64} (H : Hr x b Z EL K S h sf pc Ls st) (w : (Jvm.Cond.constantLong b.y.cls index v).before a0 Z = true) (hd : decode b.bytes pc = .ok (.ldc2_w index, 3)) (hpc : pc + 3 = pc' := by rfl) : Hr x b Z EL K S h sf pc' Ls (.long v :: st) := by
  subst hpc
  exact H.same fun T locs cells slots vm0 X eT hZ hown B => ⟨T, X, eT, X.ldc2Long B.2.1 hown (mvT hZ w) (g := mkF x.m pc Ls st) rfl (hb B.2.2.1 hd)⟩
theorem Hr.getF {index : Nat} {O n d : String} {a : Addr} {v : Value} (H : Hr x b Z EL K S h sf pc Ls (.ref a :: st)) (w : (Jvm.Cond.fieldLink b.y.cls index O n d).before a0 Z = true) (F : Fld Z h a O n d v) (hd : decode b.bytes pc = .ok (.getfield index, 3)) (hpc : pc + 3 = pc' := by rfl) : Hr x b Z EL K S h sf pc' Ls (v :: st) := by
  subst hpc
  exact H.same fun T locs cells slots vm0 X eT hZ hown B => Jvm.RoadKit.getF X B.2.1 hZ hown (host := "") (Or.inl w) Via.refl eT F (g := mkF x.m pc Ls (.ref a :: st)) rfl rfl (hb B.2.2.1 hd)
theorem Hr.getFvia {index : Nat} {R0 O n d : String} {a : Addr} {v : Value} (H : Hr x b Z EL K S h sf pc Ls (.ref a :: st)) (w : (Jvm.Cond.fieldLink b.y.cls index R0 n d).before a0 Z = true) (via : Via Z R0 O n d) (F : Fld Z h a O n d v) (hd : decode b.bytes pc = .ok (.getfield index, 3)) (hpc : pc + 3 = pc' := by rfl) : Hr x b Z EL K S h sf pc' Ls (v :: st) := by
  subst hpc
  exact H.same fun T locs cells slots vm0 X eT hZ hown B => Jvm.RoadKit.getF X B.2.1 hZ hown (host := "") (Or.inl w) via eT F (g := mkF x.m pc Ls (.ref a :: st)) rfl rfl (hb B.2.2.1 hd)
theorem Hr.getS {index : Nat} {O n d : String} {v : Value} (H : Hr x b Z EL K S h sf pc Ls st) (w : (Jvm.Cond.fieldLink b.y.cls index O n d).before a0 Z = true) (F : Sta Z h O n d v) (hd : decode b.bytes pc = .ok (.getstatic index, 3)) (hpc : pc + 3 = pc' := by rfl) : Hr x b Z EL K S h sf pc' Ls (v :: st) := by
  subst hpc
  exact H.same fun T locs cells slots vm0 X eT hZ hown B => Jvm.RoadKit.getS (host := "") X B.2.1 hZ hown w Via.refl eT F (g := mkF x.m pc Ls st) rfl (hb B.2.2.1 hd)
theorem Hr.cast {index : Nat} {C : String} {a : Addr} (H : Hr x b Z EL K S h sf pc Ls (.ref a :: st)) (w : (Jvm.Cond.classLink b.y.cls index C).before a0 Z = true) (F : Ins Z h a C true) (hd : decode b.bytes pc = .ok (.checkcast index, 3)) (hpc : pc + 3 = pc' := by rfl) : Hr x b Z EL K S h sf pc' Ls (.ref a :: st) := by
  subst hpc
  exact H.same fun T locs cells slots vm0 X eT hZ hown B => castY X B.2.1 hZ hown w eT F (g := mkF x.m pc Ls (.ref a :: st)) rfl rfl (hb B.2.2.1 hd)
theorem Hr.inst {index : Nat} {C : String} {a : Addr} (H : Hr x b Z EL K S h sf pc Ls (.ref a :: st)) (w : (Jvm.Cond.classLink b.y.cls index C).before a0 Z = true) (F : Ins Z h a C true) (hd : decode b.bytes pc = .ok (.instanceof index, 3)) (hpc : pc + 3 = pc' := by rfl) : Hr x b Z EL K S h sf pc' Ls (.int 1 :: st) := by
  subst hpc
  exact H.same fun T locs cells slots vm0 X eT hZ hown B => instY X B.2.1 hZ hown w eT F (g := mkF x.m pc Ls (.ref a :: st)) rfl rfl (hb B.2.2.1 hd)
theorem Hr.initO {index : Nat} {a : Addr} (H : Hr x b Z EL K S h sf pc Ls (.ref a :: st)) (w1 : (Jvm.Cond.methodLink b.y.cls index Lib.objectInit).before a0 Z = true) (w2 : (Jvm.Cond.instanceMethod Lib.objectInit).before a0 Z = true) (w3 : (Jvm.Cond.code Lib.objectInit ⟨#[0xb1]⟩ 1 none).before a0 Z = true)
    (hd : decode b.bytes pc = .ok (.invokespecial index, 3)) (hLs : Ls.size = b.maxL := by rfl) (hf : 1 ≤ b.R.frames := by decide) {Wr : Nat} (hW : (st.map fun v => v.category).sum = Wr := by rfl) (hl : Wr + 12 ≤ b.R.locals := by decide) (hpc : pc + 3 = pc' := by rfl) : Hr x b Z EL K S h sf pc' Ls st := by
  subst hpc hW
  exact H.same fun T locs cells slots vm0 X eT hZ hown B => Jvm.RoadKit.initO X B.2.1 hZ hown w1 w2 w3 eT (g := mkF x.m pc Ls (.ref a :: st)) rfl (hLs.trans B.2.2.2.1.symm) rfl (hb B.2.2.1 hd) hf (W := (st.map fun v => v.category).sum) (by show 2 * 0 + _ ≤ _; omega) hl
theorem Hr.putF {index kk : Nat} {O n d C : String} {ty : FieldType} {a : Addr} {v old : Value} (H : Hr x b Z EL K S h sf pc Ls (v :: .ref a :: st)) (ha : a ∈ sf) (w : (Jvm.Cond.fieldLink b.y.cls index O n d).before a0 Z = true) (F : Fld Z h a O n d old) (E : Exa Z h a C)
    (L : (Jvm.Cond.lays C O n d).before a0 Z = true ∨ ((Jvm.Cond.laysFinal C O n d).before a0 Z = true ∧ b.y.cls = O ∧ b.y.name = "<init>")) (wi : (Jvm.Cond.instantiable C kk).before a0 Z = true) (hd : decode b.bytes pc = .ok (.putfield index, 3))
    (hty : parseFieldDescriptor d = some ty := by decide +kernel) (hn : narrow ty v = v := by rfl) (hf : fits ty v = true := by rfl) (hpc : pc + 3 = pc' := by rfl) :
    ∃ h', Wr h h' a (Jvm.RoadKit.slotOf Z O n d) v ∧ Hr x b Z EL K S h' sf pc' Ls st := by
  subst hpc
  exact H.write ha fun T locs cells slots vm0 X eT hZ hown B => Jvm.RoadKit.putF X B.2.1 hZ hown (host := "") (Or.inl w) Via.refl eT F E (L.imp id fun q => ⟨q.1, q.2.1, B.2.2.2.2.2.2.trans q.2.2⟩) wi hty hn hf (g := mkF x.m pc Ls (v :: .ref a :: st)) rfl rfl (hb B.2.2.1 hd)
theorem Hr.new {index n : Nat} {C : String} (H : Hr x b Z EL K S h sf pc Ls st) (w : (Jvm.Cond.classLink b.y.cls index C).before a0 Z = true) (wi : (Jvm.Cond.instantiable C n).before a0 Z = true) (wz : (Jvm.Cond.initialized C).before a0 Z = true) (hd : decode b.bytes pc = .ok (.new index, 3))
    (hc : K + 1 ≤ b.R.cells := by decide) (hl : S + n ≤ b.R.slots := by decide) (hpc : pc + 3 = pc' := by rfl) :
    ∃ h', Ext h h' ∧ (Exa Z h' h.size C ∧ (∀ {O nm d : String} {ty : FieldType}, Laid Z a0 C O nm d → parseFieldDescriptor d = some ty → Fld Z h' h.size O nm d (defaultValue ty)) ∧ Unt h' h.size) ∧ Hr x b Z EL (K + 1) (S + n) h' (h.size :: sf) pc' Ls (.ref h.size :: st) := by
  subst hpc
  refine H.alloc hc hl (P := fun h' => Exa Z h' h.size C ∧ (∀ {O nm d : String} {ty : FieldType}, Laid Z a0 C O nm d → parseFieldDescriptor d = some ty → Fld Z h' h.size O nm d (defaultValue ty)) ∧ Unt h' h.size) (fun h' q => q.1.lt) fun T locs cells slots vm0 X eT hZ hown B hc' hl' => ?_
  obtain ⟨T', h', X', e', E, A, D, U, st1⟩ := newO X B.2.1 hZ hown w wi wz eT (g := mkF x.m pc Ls st) rfl (hb B.2.2.1 hd) hc' hl'
  exact ⟨T', h', X', e', E, ⟨A, D, U⟩, st1⟩
/-! ### ends -/
theorem Hr.fin {Q : Option Value → Heap → List Addr → Prop} {v : Value} {t : FieldType} {i : Instr} {sn : List Addr} (H : Hr x b Z EL K S h sf pc Ls (v :: st)) (hd : decode b.bytes pc = .ok (i, 1)) (hret : b.ret = some t) (hn : narrow t v = v)
    (hi : (i = .ireturn ∧ (t = .int ∨ t = .boolean ∨ t = .byte ∨ t = .char ∨ t = .short) ∧ ∃ z, v = .int z) ∨ (i = .lreturn ∧ t = .long ∧ ∃ z, v = .long z) ∨ (i = .dreturn ∧ t = .double ∧ ∃ z, v = .double z) ∨ (i = .freturn ∧ t = .float ∧ ∃ z, v = .float z) ∨ (i = .areturn ∧ t.isReference = true ∧ v.isRef = true))
    (hK : K ≤ b.R.cells) (hS : S ≤ b.R.slots) (hsn : ∀ a ∈ sn, a ∈ sf) (q : Q (some v) h sn) : Ends x b Z EL Q := by
  obtain ⟨B, T, locs, cells, slots, vm0, k0, ⟨X, h1, h2, h3, h4, h5, h6, h7, h8, h9, h10, h11, h12, h13, h14⟩, k⟩ := H
  have A := CHv.at X h7 B.1.choose_spec h9.1
  obtain ⟨fs, hr, hrun, hended, hW⟩ := (X.mono (Nat.le_trans h1 hK) (Nat.le_trans h2 hS)).leaveW h5 (by rw [h3]; exact h6) (v := some v) (fun z => by rw [B.2.2.2.2.1, hret] at z; cases z) B.2.2.2.2.2.1
  refine ⟨_, _, k _ (retOut X B.2.1 (t := t) (by rw [B.2.2.2.2.1]; exact hret) hn hi (hb B.2.2.1 hd) hr), hrun, hended, some v, locs, sn, rfl, ?_, ?_, fun z hz => ?_, h4, ?_, fun hn => State.WarmedH.trans (t := x.s.setVm vm0) (h13 hn) X.warmed, hW⟩
  · show Q (some v) T.heap sn; rw [h3]; exact q
  · show Keep x.s.heap T.heap x.sf0; rw [h3]; exact h10
  · obtain ⟨z1, z2, z3, z4⟩ := h12 z (hsn z hz)
    refine ⟨z1, z2, ?_, ?_⟩
    · show z < T.heap.size; rw [h3]; exact z3
    · show Safe Z EL T.vm T.heap z; rw [h3]; exact A.safe z3 z4
  · show CHr Z EL x.s.vm x.s.heap T.vm T.heap; rw [h3]; exact h9.trans A
theorem Hr.finN {Q : Option Value → Heap → List Addr → Prop} {sn : List Addr} (H : Hr x b Z EL K S h sf pc Ls []) (hd : decode b.bytes pc = .ok (.return_, 1)) (hret : b.ret = none)
    (hK : K ≤ b.R.cells) (hS : S ≤ b.R.slots) (hsn : ∀ a ∈ sn, a ∈ sf) (q : Q none h sn) : Ends x b Z EL Q := by
  obtain ⟨B, T, locs, cells, slots, vm0, k0, ⟨X, h1, h2, h3, h4, h5, h6, h7, h8, h9, h10, h11, h12, h13, h14⟩, k⟩ := H
  have A := CHv.at X h7 B.1.choose_spec h9.1
  obtain ⟨fs, hr, hrun, hended, hW⟩ := (X.mono (Nat.le_trans h1 hK) (Nat.le_trans h2 hS)).leaveW h5 (by rw [h3]; exact h6) (v := none) (fun _ => rfl) B.2.2.2.2.2.1
  refine ⟨_, _, k _ (X.returnOut B.2.1 (by rw [B.2.2.2.2.1]; exact hret) (hb B.2.2.1 hd) hr), hrun, hended, none, locs, sn, rfl, ?_, ?_, fun z hz => ?_, h4, ?_, fun hn => State.WarmedH.trans (t := x.s.setVm vm0) (h13 hn) X.warmed, hW⟩
  · show Q none T.heap sn; rw [h3]; exact q
  · show Keep x.s.heap T.heap x.sf0; rw [h3]; exact h10
  · obtain ⟨z1, z2, z3, z4⟩ := h12 z (hsn z hz)
    refine ⟨z1, z2, ?_, ?_⟩
    · show z < T.heap.size; rw [h3]; exact z3
    · show Safe Z EL T.vm T.heap z; rw [h3]; exact A.safe z3 z4
  · show CHr Z EL x.s.vm x.s.heap T.vm T.heap; rw [h3]; exact h9.trans A
theorem Hr.finI {Q : Option Value → Heap → List Addr → Prop} {v : Int32} {sn : List Addr} (H : Hr x b Z EL K S h sf pc Ls (.int v :: st)) (hd : decode b.bytes pc = .ok (.ireturn, 1)) (q : Q (some (.int v)) h sn) (hsn : ∀ a ∈ sn, a ∈ sf) (hret : b.ret = some .int := by rfl) (hK : K ≤ b.R.cells := by decide) (hS : S ≤ b.R.slots := by decide) : Ends x b Z EL Q :=
  H.fin hd hret rfl (Or.inl ⟨rfl, Or.inl rfl, _, rfl⟩) hK hS hsn q
theorem Hr.finZ {Q : Option Value → Heap → List Addr → Prop} {v : Int32} {t : FieldType} {sn : List Addr} (H : Hr x b Z EL K S h sf pc Ls (.int v :: st)) (hd : decode b.bytes pc = .ok (.ireturn, 1)) (hn : narrow t (.int v) = .int v) (q : Q (some (.int v)) h sn) (hsn : ∀ a ∈ sn, a ∈ sf) (hret : b.ret = some t := by rfl) (ht : t = .int ∨ t = .boolean ∨ t = .byte ∨ t = .char ∨ t = .short := by simp) (hK : K ≤ b.R.cells := by decide) (hS : S ≤ b.R.slots := by decide) : Ends x b Z EL Q :=
  H.fin hd hret hn (Or.inl ⟨rfl, ht, _, rfl⟩) hK hS hsn q
theorem Hr.finA {Q : Option Value → Heap → List Addr → Prop} {v : Value} {t : FieldType} {sn : List Addr} (H : Hr x b Z EL K S h sf pc Ls (v :: st)) (hd : decode b.bytes pc = .ok (.areturn, 1)) (q : Q (some v) h sn) (hsn : ∀ a ∈ sn, a ∈ sf) (hv : v.isRef = true := by rfl) (hret : b.ret = some t := by rfl) (ht : t.isReference = true := by rfl) (hK : K ≤ b.R.cells := by decide) (hS : S ≤ b.R.slots := by decide) : Ends x b Z EL Q :=
  H.fin hd hret (by rcases ref_cases hv with rfl | ⟨a, rfl⟩ <;> cases t <;> first | rfl | cases ht) (Or.inr (Or.inr (Or.inr (Or.inr ⟨rfl, ht, hv⟩)))) hK hS hsn q
/-! ### calls -/
theorem Hr.callS {y : MethodName} {bytes : ByteArray} {maxL : Nat} {ret : Option FieldType} {rm : Room} {as' : Array Value} {sf' : List Addr} {Q : Option Value → Heap → List Addr → Prop} {index : Nat} {argsL rest : List Value} {ps : List FieldType} {rt : Option FieldType}
    (H : Hr x b Z EL K S h sf pc Ls st) (C : Ct x.l Z EL y bytes maxL ret rm as' h sf' x.nar x.kn Q) (sub : ∀ a ∈ sf', a ∈ sf)
    (w1 : (Jvm.Cond.methodLink b.y.cls index y).before a0 Z = true) (w2 : (Jvm.Cond.static y).before a0 Z = true) (w3 : (Jvm.Cond.initialized y.cls).before a0 Z = true) (w4 : (Jvm.Cond.code y bytes maxL ret).before a0 Z = true)
    (hd : decode b.bytes pc = .ok (.invokestatic index, 3)) (hp : parseMethodDescriptor y.desc = some ⟨ps, rt⟩) (hst : st = argsL.reverse ++ rest) (has : argsL.toArray = as' := by rfl) (hl2 : argsL.length = ps.length := by rfl) (hy : y.cls ≠ "java/lang/invoke/MethodHandle" ∧ y.cls ≠ "java/lang/invoke/VarHandle" := by decide)
    (hf : rm.frames + 1 ≤ b.R.frames := by decide) {Wr : Nat} (hW : (rest.map fun v => v.category).sum = Wr := by rfl) (hl : Wr + (maxL + 11) + rm.locals ≤ b.R.locals := by decide) (hc : K + rm.cells ≤ b.R.cells := by decide) (hs : S + rm.slots ≤ b.R.slots := by decide) (hLs : Ls.size = b.maxL := by rfl) (hpc : pc + 3 = pc' := by rfl) :
    ∃ (v : Option Value) (h' : Heap) (sn : List Addr), Q v h' sn ∧ Keep h h' sf' ∧ Hr x b Z EL (K + rm.cells) (S + rm.slots) h' (sn ++ sf) pc' Ls (v.toList ++ rest) := by
  subst has hpc hW
  obtain ⟨B, T, locs, cells, slots, vm0, k0, X, k⟩ := H
  have X2 := X
  obtain ⟨X1, h1, h2, h3, h4, h5, h6, h7, h8, h9, h10, h11, h12, h13, h14⟩ := X2
  obtain ⟨v, vm₁, P, -, X', hS, hgr, hp', hsteps⟩ := callSS X1 B.2.1 (own := b.y.cls) h8 (mvT h7 w1) (mvT h7 w2) (mvT h7 w3) (mvT h7 w4) hy
    (C.backS (W := (rest.map fun v => v.category).sum) h7 w4 w3 hf hl B.1.choose_spec h9.1 h11 (fun z hz => (h12 z (sub z hz)).2) h14)
    (g := mkF x.m pc Ls st) rfl (hLs.trans B.2.2.2.1.symm) (argsL := argsL) (rest := rest) (lenOf hp hl2) hst (by show 2 * 0 + _ ≤ _; omega) (hb B.2.2.1 hd) (fun vm₁ _ => ⟨rfl, h3, by show cells + _ ≤ _; omega, by show slots + _ ≤ _; omega⟩)
  obtain ⟨h', sn, r1, r2, r3⟩ := Hr.after (rm := rm) (sf' := sf') (Q := Q) B X k sub X' hS hgr hp' hsteps
  exact ⟨v, h', sn, r1, r2, r3⟩
theorem Hr.callI {y : MethodName} {bytes : ByteArray} {maxL : Nat} {rm : Room} {as' : Array Value} {sf' : List Addr} {Q : Option Value → Heap → List Addr → Prop} {index : Nat} {a : Addr} {argsL rest : List Value} {ps : List FieldType} {rt : Option FieldType}
    (H : Hr x b Z EL K S h sf pc Ls st) (C : Ct x.l Z EL y bytes maxL none rm as' h sf' x.nar x.kn Q) (sub : ∀ a ∈ sf', a ∈ sf)
    (w1 : (Jvm.Cond.methodLink b.y.cls index y).before a0 Z = true) (w2 : (Jvm.Cond.instanceMethod y).before a0 Z = true) (w3 : (Jvm.Cond.initialized y.cls).before a0 Z = true) (w4 : (Jvm.Cond.code y bytes maxL none).before a0 Z = true)
    (hd : decode b.bytes pc = .ok (.invokespecial index, 3)) (hp : parseMethodDescriptor y.desc = some ⟨ps, rt⟩) (hst : st = argsL.reverse ++ .ref a :: rest) (has : (Value.ref a :: argsL).toArray = as' := by rfl) (hl2 : argsL.length = ps.length := by rfl) (hy1 : y.name = "<init>" := by rfl) (hy : y.cls ≠ "java/lang/invoke/MethodHandle" ∧ y.cls ≠ "java/lang/invoke/VarHandle" := by decide)
    (hf : rm.frames + 1 ≤ b.R.frames := by decide) {Wr : Nat} (hW : (rest.map fun v => v.category).sum = Wr := by rfl) (hl : Wr + (maxL + 11) + rm.locals ≤ b.R.locals := by decide) (hc : K + rm.cells ≤ b.R.cells := by decide) (hs : S + rm.slots ≤ b.R.slots := by decide) (hLs : Ls.size = b.maxL := by rfl) (hpc : pc + 3 = pc' := by rfl) :
    ∃ (v : Option Value) (h' : Heap) (sn : List Addr), Q v h' sn ∧ Keep h h' sf' ∧ Hr x b Z EL (K + rm.cells) (S + rm.slots) h' (sn ++ sf) pc' Ls (v.toList ++ rest) := by
  subst has hpc hW
  obtain ⟨B, T, locs, cells, slots, vm0, k0, X, k⟩ := H
  have X2 := X
  obtain ⟨X1, h1, h2, h3, h4, h5, h6, h7, h8, h9, h10, h11, h12, h13, h14⟩ := X2
  obtain ⟨v, vm₁, P, -, X', hS, hgr, hp', hsteps⟩ := X1.specialBackS B.2.1 hy1 h8 (mvT h7 w1) (mvT h7 w2) (mvT h7 w4) hy
    (C.backS (W := (rest.map fun v => v.category).sum) h7 w4 w3 hf hl B.1.choose_spec h9.1 h11 (fun z hz => (h12 z (sub z hz)).2) h14)
    (g := mkF x.m pc Ls st) rfl (hLs.trans B.2.2.2.1.symm) (Steps.refl _) (a := a) (argsL := argsL) (rest := rest) (lenOf hp hl2) hst (by show 2 * 0 + _ ≤ _; omega) (hb B.2.2.1 hd) (fun vm₁ _ => ⟨rfl, h3, by show cells + _ ≤ _; omega, by show slots + _ ≤ _; omega⟩)
  obtain ⟨h', sn, r1, r2, r3⟩ := Hr.after (rm := rm) (sf' := sf') (Q := Q) B X k sub X' hS hgr hp' hsteps
  exact ⟨v, h', sn, r1, r2, r3⟩
theorem notFace_by {s : State} {args : Array Value} {C : String} {y y' : MethodName} (ws : (Jvm.Cond.selects C y' y').before args s = true) (hc : y'.cls = y.cls) : NotFace s y := fun r0 h0 => by
  obtain ⟨c2, r2, m2, -, -, q3, -, kP, hkP, hkPi⟩ := Cond.selects_spec ws
  have h1 := findClass_of_methodNamed h0
  have h2 := findClass_of_methodNamed q3
  rw [hc, h1] at h2
  have e : r0.cls = m2.cls := Option.some.inj h2
  rw [← e] at hkP
  exact ⟨kP, hkP, hkPi⟩
theorem Hr.callV {y y' z : MethodName} {bytes : ByteArray} {maxL : Nat} {ret : Option FieldType} {rm : Room} {as' : Array Value} {sf' : List Addr} {Q : Option Value → Heap → List Addr → Prop} {index : Nat} {a : Addr} {cls cls' : String} {argsL rest : List Value} {ps : List FieldType} {rt : Option FieldType}
    (H : Hr x b Z EL K S h sf pc Ls st) (C : Ct x.l Z EL z bytes maxL ret rm as' h sf' x.nar x.kn Q) (sub : ∀ a ∈ sf', a ∈ sf) (E : Exa Z h a cls)
    (w1 : (Jvm.Cond.methodLink b.y.cls index y).before a0 Z = true) (w2 : (Jvm.Cond.declares y).before a0 Z = true) (wn : (Jvm.Cond.selects cls' y' y').before a0 Z = true) (ws : (Jvm.Cond.selects cls y z).before a0 Z = true) (wi : (Jvm.Cond.instanceMethod z).before a0 Z = true) (w3 : (Jvm.Cond.initialized z.cls).before a0 Z = true) (w4 : (Jvm.Cond.code z bytes maxL ret).before a0 Z = true)
    (hd : decode b.bytes pc = .ok (.invokevirtual index, 3)) (hp : parseMethodDescriptor y.desc = some ⟨ps, rt⟩) (hst : st = argsL.reverse ++ .ref a :: rest) (hyc : y'.cls = y.cls := by rfl) (has : (Value.ref a :: argsL).toArray = as' := by rfl) (hl2 : argsL.length = ps.length := by rfl) (hy : y.cls ≠ "java/lang/invoke/MethodHandle" ∧ y.cls ≠ "java/lang/invoke/VarHandle" := by decide)
    (hf : rm.frames + 1 ≤ b.R.frames := by decide) {Wr : Nat} (hW : (rest.map fun v => v.category).sum = Wr := by rfl) (hl : Wr + (maxL + 11) + rm.locals ≤ b.R.locals := by decide) (hc : K + rm.cells ≤ b.R.cells := by decide) (hs : S + rm.slots ≤ b.R.slots := by decide) (hLs : Ls.size = b.maxL := by rfl) (hpc : pc + 3 = pc' := by rfl) :
    ∃ (v : Option Value) (h' : Heap) (sn : List Addr), Q v h' sn ∧ Keep h h' sf' ∧ Hr x b Z EL (K + rm.cells) (S + rm.slots) h' (sn ++ sf) pc' Ls (v.toList ++ rest) := by
  subst has hpc hW
  obtain ⟨B, T, locs, cells, slots, vm0, k0, X, k⟩ := H
  have X2 := X
  obtain ⟨X1, h1, h2, h3, h4, h5, h6, h7, h8, h9, h10, h11, h12, h13, h14⟩ := X2
  obtain ⟨cB, kB, i1, i2, i3⟩ := isOf (s := x.s.setVm vm0) (T := T) h7 h3 E
  obtain ⟨v, vm₁, P, -, X', hS, hgr, hp', hsteps⟩ := X1.virtualBackS B.2.1 (y := y) (z := z) h8 (mvT h7 w1) (mvT h7 w2) (notFace_by (args := #[]) (mvT h7 wn) hyc) (mvT h7 ws) (mvT h7 wi) hy
    (C.backS (W := (rest.map fun v => v.category).sum) h7 w4 w3 hf hl B.1.choose_spec h9.1 h11 (fun z hz => (h12 z (sub z hz)).2) h14) i1 i3
    (g := mkF x.m pc Ls st) rfl (hLs.trans B.2.2.2.1.symm) (Steps.refl _) (argsL := argsL) (rest := rest) (lenOf hp hl2) hst (by show 2 * 0 + _ ≤ _; omega) (hb B.2.2.1 hd) (fun vm₁ _ => ⟨rfl, h3, by show cells + _ ≤ _; omega, by show slots + _ ≤ _; omega⟩)
  obtain ⟨h', sn, r1, r2, r3⟩ := Hr.after (rm := rm) (sf' := sf') (Q := Q) B X k sub X' hS hgr hp' hsteps
  exact ⟨v, h', sn, r1, r2, r3⟩
end Layer2
end Jvm.Pilot.@@N@@
namespace Jvm.Pilot.@@N@@
open Jvm Jvm.ClassFile Sem Op Lib Bundle Jvm.Free Jvm.Stand Jvm.LawKit Jvm.RoadKit
section Layer3
variable {x : Cx} {b : Bx} {Z : State} {EL : List (String × Nat)} {K S : Nat} {h h' : Heap} {sf : List Addr} {pc pc' : Nat} {Ls Ls' : Array Slot} {st st' : List Value} {a0 : Array Value}
/-- an array and all that it holds -/
def Ar (Z : State) (h : Heap) (a : Addr) (ty : FieldType) (vs : List Value) : Prop := ∃ c : Cell, Arr Z h a c ty ∧ c.slots.toList = vs ∧ vs.length < 2147483648
variable {a d : Addr} {ty : FieldType} {vs : List Value} {ws : List Addr} {sl : Nat} {v : Value}
theorem neN {p q : Addr} (h : @Ne Nat p q) : p ≠ q := h
theorem exa_lt {C : String} (F : Exa Z h a C) : h.size > a := F.lt
theorem fld_lt {C n d : String} (F : Fld Z h a C n d v) : h.size > a := F.lt
theorem Ar.lt (F : Ar Z h a ty vs) : h.size > a := by obtain ⟨c, A, -⟩ := F; exact A.lt
theorem Ar.len (F : Ar Z h a ty vs) : vs.length < 2147483648 := by obtain ⟨c, A, -, q⟩ := F; exact q
theorem Ar.ext (F : Ar Z h a ty vs) (E : Ext h h') : Ar Z h' a ty vs := by obtain ⟨c, A, r⟩ := F; exact ⟨c, A.ext E, r⟩
theorem Ar.keep (F : Ar Z h a ty vs) (K : Keep h h' ws) (q : a ∉ ws) : Ar Z h' a ty vs := by obtain ⟨c, A, r⟩ := F; exact ⟨c, ⟨K.2.1 a c A.1 q, A.2⟩, r⟩
theorem Ar.other (F : Ar Z h a ty vs) (W : Wr h h' d sl v) (q : a ≠ d) : Ar Z h' a ty vs := by obtain ⟨c, A, r⟩ := F; exact ⟨c, A.other W q, r⟩
theorem Ar.set (F : Ar Z h a ty vs) (W : Wr h h' a sl v) : Ar Z h' a ty (vs.set sl v) := by
  obtain ⟨c, A, r1, r2⟩ := F
  exact ⟨_, A.same W, by subst r1; simp [Cell.setSlot], by simpa using r2⟩
theorem Ar.of_new {k : ClassId} {n : Int32} (A : Arr Z h a (newA k ty n) ty) (hn : ¬ n < 0) : Ar Z h a ty (List.replicate n.toNatClampNeg (defaultValue ty)) :=
  ⟨_, A, by simp [newA], by have := (back32 hn).2; simpa using this⟩
theorem Ar.of_arv {k : ClassId} {z : Int32} {dv : Value} (F : Arv Z h a k ty z vs dv) (hz : z.toNatClampNeg = vs.length) : Ar Z h a ty vs := by
  obtain ⟨c, A, -, r2, r3, r4, -⟩ := F
  refine ⟨c, A, ?_, by have := (back32 r3).2; omega⟩
  apply List.ext_getElem?
  intro i
  by_cases hi : i < vs.length
  · have := r4 i (by omega)
    rw [Array.getElem?_toList, this]
    simp [List.getD, hi]
  · rw [List.getElem?_eq_none (by rw [Array.length_toList]; omega), List.getElem?_eq_none (by omega)]
theorem Ar.at {c : Cell} {i : Nat} {j : Int32} (hc : c.slots.toList = vs) (hl : vs.length < 2147483648) (hj : j = Int32.ofNat i) (hv : vs[i]? = some v) : ¬ (j < 0 ∨ c.slots.size ≤ j.toNatClampNeg) ∧ j.toNatClampNeg = i ∧ c.slots[j.toNatClampNeg]? = some v := by
  obtain ⟨hi, -⟩ := List.getElem?_eq_some_iff.mp hv
  have hs : c.slots.size = vs.length := by rw [← hc, Array.length_toList]
  have h2 : j.toNatClampNeg = i := clamp_of hj (by omega)
  exact ⟨by rw [hs]; exact within hj hi (by omega), h2, by rw [h2, ← Array.getElem?_toList, hc]; exact hv⟩
theorem Hr.arraylength {n : Int32} (H : Hr x b Z EL K S h sf pc Ls (.ref a :: st)) (A : Ar Z h a ty vs) (hd : decode b.bytes pc = .ok (.arraylength, 1)) (hn : Int32.ofNat vs.length = n := by rfl) (hpc : pc + 1 = pc' := by rfl) : Hr x b Z EL K S h sf pc' Ls (.int n :: st) := by
  subst hpc hn
  obtain ⟨c, A1, r1, r2⟩ := A
  refine H.same fun T locs cells slots vm0 X eT hZ hown B => ⟨T, X, eT, fun t q => X.arraylength B.2.1 (cell := c) (ty := ty) (by rw [eT]; exact A1.1) (State.isArrayOf_alike hZ.alike A1.2.1) (g := mkF x.m pc Ls (.ref a :: st)) rfl rfl (hb B.2.2.1 hd) t ?_⟩
  have e : c.slots.size.toInt32 = Int32.ofNat vs.length := by rw [← r1, Array.length_toList]
  rw [e]; exact q
theorem Hr.caload {i : Nat} {j : Int32} (H : Hr x b Z EL K S h sf pc Ls (.int j :: .ref a :: st)) (A : Ar Z h a .char vs) (hd : decode b.bytes pc = .ok (.caload, 1)) (hj : j = Int32.ofNat i) (hv : vs[i]? = some v) (hpc : pc + 1 = pc' := by rfl) : Hr x b Z EL K S h sf pc' Ls (v :: st) := by
  subst hpc
  obtain ⟨c, A1, r1, r2⟩ := A
  obtain ⟨q1, q2, q3⟩ := Ar.at r1 r2 hj hv
  exact H.same fun T locs cells slots vm0 X eT hZ hown B => ⟨T, X, eT, fun t q => X.caload B.2.1 (cell := c) (by rw [eT]; exact A1.1) (State.isArrayOf_alike hZ.alike A1.2.1) A1.2.2 q1 q3 (g := mkF x.m pc Ls (.int j :: .ref a :: st)) rfl rfl (hb B.2.2.1 hd) t q⟩
theorem Hr.baload {i : Nat} {j : Int32} (H : Hr x b Z EL K S h sf pc Ls (.int j :: .ref a :: st)) (A : Ar Z h a .byte vs) (hd : decode b.bytes pc = .ok (.baload, 1)) (hj : j = Int32.ofNat i) (hv : vs[i]? = some v) (hpc : pc + 1 = pc' := by rfl) : Hr x b Z EL K S h sf pc' Ls (v :: st) := by
  subst hpc
  obtain ⟨c, A1, r1, r2⟩ := A
  obtain ⟨q1, q2, q3⟩ := Ar.at r1 r2 hj hv
  exact H.same fun T locs cells slots vm0 X eT hZ hown B => ⟨T, X, eT, fun t q => X.baloadBytes B.2.1 (cell := c) (by rw [eT]; exact A1.1) (State.isArrayOf_alike hZ.alike A1.2.1) A1.2.2 q1 q3 (g := mkF x.m pc Ls (.int j :: .ref a :: st)) rfl rfl (hb B.2.2.1 hd) t q⟩
theorem Hr.iaload {i : Nat} {j : Int32} (H : Hr x b Z EL K S h sf pc Ls (.int j :: .ref a :: st)) (A : Ar Z h a .int vs) (hd : decode b.bytes pc = .ok (.iaload, 1)) (hj : j = Int32.ofNat i) (hv : vs[i]? = some v) (hpc : pc + 1 = pc' := by rfl) : Hr x b Z EL K S h sf pc' Ls (v :: st) := by
  subst hpc
  obtain ⟨c, A1, r1, r2⟩ := A
  obtain ⟨q1, q2, q3⟩ := Ar.at r1 r2 hj hv
  exact H.same fun T locs cells slots vm0 X eT hZ hown B => ⟨T, X, eT, fun t q => X.iaload B.2.1 (cell := c) (by rw [eT]; exact A1.1) (State.isArrayOf_alike hZ.alike A1.2.1) A1.2.2 q1 q3 (g := mkF x.m pc Ls (.int j :: .ref a :: st)) rfl rfl (hb B.2.2.1 hd) t q⟩
theorem Hr.aaload {i : Nat} {j : Int32} (H : Hr x b Z EL K S h sf pc Ls (.int j :: .ref a :: st)) (A : Ar Z h a ty vs) (hd : decode b.bytes pc = .ok (.aaload, 1)) (hj : j = Int32.ofNat i) (hv : vs[i]? = some v) (hty : ty.isReference = true := by rfl) (hpc : pc + 1 = pc' := by rfl) : Hr x b Z EL K S h sf pc' Ls (v :: st) := by
  subst hpc
  obtain ⟨c, A1, r1, r2⟩ := A
  obtain ⟨q1, q2, q3⟩ := Ar.at r1 r2 hj hv
  exact H.same fun T locs cells slots vm0 X eT hZ hown B => ⟨T, X, eT, fun t q => X.aaload B.2.1 (cell := c) (by rw [eT]; exact A1.1) (State.isArrayOf_alike hZ.alike A1.2.1) hty A1.2.2 q1 q3 (g := mkF x.m pc Ls (.int j :: .ref a :: st)) rfl rfl (hb B.2.2.1 hd) t q⟩
theorem Hr.castore {i : Nat} {j u w : Int32} (H : Hr x b Z EL K S h sf pc Ls (.int u :: .int j :: .ref a :: st)) (ha : a ∈ sf) (A : Ar Z h a .char vs) (hd : decode b.bytes pc = .ok (.castore, 1)) (hj : j = Int32.ofNat i) (hi : i < vs.length) (hw : nar .char u = w := by rfl) (hpc : pc + 1 = pc' := by rfl) :
    ∃ h', Wr h h' a i (.int w) ∧ Hr x b Z EL K S h' sf pc' Ls st := by
  subst hpc hw
  obtain ⟨c, A1, r1, r2⟩ := A
  obtain ⟨q1, q2, q3⟩ := Ar.at r1 r2 hj (List.getElem?_eq_getElem hi)
  rw [← q2]
  exact H.write ha fun T locs cells slots vm0 X eT hZ hown B => stC X B.2.1 hZ eT A1 q1 (g := mkF x.m pc Ls (.int u :: .int j :: .ref a :: st)) rfl rfl (hb B.2.2.1 hd)
theorem Hr.bastore {i : Nat} {j u w : Int32} (H : Hr x b Z EL K S h sf pc Ls (.int u :: .int j :: .ref a :: st)) (ha : a ∈ sf) (A : Ar Z h a .byte vs) (hd : decode b.bytes pc = .ok (.bastore, 1)) (hj : j = Int32.ofNat i) (hi : i < vs.length) (hw : nar .byte u = w := by rfl) (hpc : pc + 1 = pc' := by rfl) :
    ∃ h', Wr h h' a i (.int w) ∧ Hr x b Z EL K S h' sf pc' Ls st := by
  subst hpc hw
  obtain ⟨c, A1, r1, r2⟩ := A
  obtain ⟨q1, q2, q3⟩ := Ar.at r1 r2 hj (List.getElem?_eq_getElem hi)
  rw [← q2]
  exact H.write ha fun T locs cells slots vm0 X eT hZ hown B => stB X B.2.1 hZ eT A1 q1 (g := mkF x.m pc Ls (.int u :: .int j :: .ref a :: st)) rfl rfl (hb B.2.2.1 hd)
theorem Hr.iastore {i : Nat} {j u : Int32} (H : Hr x b Z EL K S h sf pc Ls (.int u :: .int j :: .ref a :: st)) (ha : a ∈ sf) (A : Ar Z h a .int vs) (hd : decode b.bytes pc = .ok (.iastore, 1)) (hj : j = Int32.ofNat i) (hi : i < vs.length) (hpc : pc + 1 = pc' := by rfl) :
    ∃ h', Wr h h' a i (.int u) ∧ Hr x b Z EL K S h' sf pc' Ls st := by
  subst hpc
  obtain ⟨c, A1, r1, r2⟩ := A
  obtain ⟨q1, q2, q3⟩ := Ar.at r1 r2 hj (List.getElem?_eq_getElem hi)
  rw [← q2]
  exact H.write ha fun T locs cells slots vm0 X eT hZ hown B => stI X B.2.1 hZ eT A1 q1 (g := mkF x.m pc Ls (.int u :: .int j :: .ref a :: st)) rfl rfl (hb B.2.2.1 hd)
theorem Hr.newarray {aty : ArrayType} {n : Int32} {cap : Nat} (H : Hr x b Z EL K S h sf pc Ls (.int n :: st)) (w : (Jvm.Cond.arrayClass (newarray.typeOf aty)).before a0 Z = true) (hd : decode b.bytes pc = .ok (.newarray aty, 2)) (hn : ¬ n < 0) (hcap : n.toNatClampNeg ≤ cap) (hb8 : cap * 8 ≤ 536870912)
    (hc : K + 1 ≤ b.R.cells := by decide) (hl : S + cap ≤ b.R.slots := by decide) (hpc : pc + 2 = pc' := by rfl) :
    ∃ h', Ext h h' ∧ Ar Z h' h.size (newarray.typeOf aty) (List.replicate n.toNatClampNeg (defaultValue (newarray.typeOf aty))) ∧ Hr x b Z EL (K + 1) (S + cap) h' (h.size :: sf) pc' Ls (.ref h.size :: st) := by
  subst hpc
  refine H.alloc hc hl (P := fun h' => Ar Z h' h.size (newarray.typeOf aty) (List.replicate n.toNatClampNeg (defaultValue (newarray.typeOf aty)))) (fun h' q => q.lt) fun T locs cells slots vm0 X eT hZ hown B hc' hl' => ?_
  obtain ⟨T', h', cA, X', e', E, A, st1⟩ := newP X B.2.1 hZ w eT (g := mkF x.m pc Ls (.int n :: st)) rfl (hb B.2.2.1 hd) rfl hn hcap hb8 hc' hl'
  exact ⟨T', h', X', e', E, Ar.of_new A hn, st1⟩
/-! ### Strings -/
abbrev ST : String := "java/lang/String"
/-- a Latin-1 String: its value array lies at t and holds the bytes bs -/
def Str (Z : State) (h : Heap) (a t : Addr) (bs : List Int32) : Prop := Exa Z h a ST ∧ Fld Z h a ST "coder" "B" (.int 0) ∧ Fld Z h a ST "value" "[B" (.ref t) ∧ Ar Z h t .byte (bs.map Value.int)
variable {t : Addr} {bs : List Int32}
theorem Str.ext (F : Str Z h a t bs) (E : Ext h h') : Str Z h' a t bs := ⟨F.1.ext E, F.2.1.ext E, F.2.2.1.ext E, F.2.2.2.ext E⟩
theorem Str.keep (F : Str Z h a t bs) (K : Keep h h' ws) (q : a ∉ ws) (q' : t ∉ ws) : Str Z h' a t bs := ⟨F.1.keep K, F.2.1.keep K q, F.2.2.1.keep K q, F.2.2.2.keep K q'⟩
theorem Str.other (F : Str Z h a t bs) (W : Wr h h' d sl v) (q : a ≠ d) (q' : t ≠ d) : Str Z h' a t bs := ⟨F.1.wr W, F.2.1.other W (Or.inl q), F.2.2.1.other W (Or.inl q), F.2.2.2.other W q'⟩
theorem Str.lt (F : Str Z h a t bs) : h.size > a := F.1.lt
theorem Str.lt' (F : Str Z h a t bs) : h.size > t := F.2.2.2.lt
theorem Str.len (F : Str Z h a t bs) : bs.length < 2147483648 := by have := F.2.2.2.len; simpa using this
/-- ldc of a String constant, its text read -/
theorem Hr.ldcS {index n : Nat} {text : String} {z : Int32} (H : Hr x b Z EL K S h sf pc Ls st) (w : (Jvm.Cond.stringLink b.y.cls index text).before a0 Z = true) (wS : ∀ d ∈ Bundle.stringAtoms, d.before a0 Z = true) (hEL : EW Z a0 EL) (hmem : (b.y.cls, index) ∈ EL)
    (ht : (∀ c ∈ text.toList, c.toNat < 256) ∧ text.toList.map (fun c => Jvm.Lit.byteI c.toNat.toUInt16) = bs) (hz : ¬ z < 0) (hl : z.toNatClampNeg = bs.length) (hd : decode b.bytes pc = .ok (.ldc index, 2)) (hn : 4 * text.toList.length ≤ n) (hbig : n ≤ 536870912)
    (hnar : x.nar = false) (hc : K + 2 ≤ b.R.cells := by decide) (hl' : S + (n + 4) ≤ b.R.slots := by decide) (hpc : pc + 2 = pc' := by rfl) :
    ∃ (a t : Addr) (h' : Heap), Ext h h' ∧ Str Z h' a t bs ∧ (∀ y ∈ sf, y ≠ a ∧ y ≠ t) ∧ Hr x b Z EL (K + 2) (S + (n + 4)) h' sf pc' Ls (.ref a :: st) := by
  subst hpc
  obtain ⟨B, T, locs, cells, slots, vm0, k0, ⟨X, h1, h2, h3, h4, h5, h6, h7, h8, h9, h10, h11, h12, h13, h14⟩, k⟩ := H
  obtain ⟨a, T', h', k1, b', kc, X', e', E, hS, hk, hW, hf, g1, g2, g3, g4, g5, g6, hC, -, hsafe, st1⟩ := ldcCH X B.2.1 h7 h8 w wS h3 h5 h6 hEL hmem h9.1 (vs := bs.map Value.int) ⟨ht.1, by rw [← ht.2]; simp⟩ hz (by simpa using hl) (g := mkF x.m pc Ls st) rfl (hb B.2.2.1 hd) hn hbig (by omega) (by omega)
  have hm : ∀ y ∈ sf, Mine x Z EL T'.vm h' y := fun y hy => by
    obtain ⟨y1, y2, y3, y4⟩ := h12 y hy
    exact ⟨y1, y2, Nat.lt_of_lt_of_le y3 E.1, hC.safe y3 y4⟩
  refine ⟨a, b', h', E, ⟨g1, g2, g3, Ar.of_arv g4 (by simpa using hl)⟩, fun y hy => hsafe y (hm y hy).2.2.2, B, T', locs, _, _, T'.vm, k1, ⟨X', by omega, by omega, e', h4, hS, hk, hW, hf, h9.trans hC, h10.ext E, Ext.tr h11 E, hm, fun hn => ?_, fun hk => ?_⟩, fun t q => k t (st1 t q)⟩
  · rw [hnar] at hn; cases hn
  · have hal : vm0.Alike T'.vm := h7.alike.symm.trans hW.alike
    exact ⟨Vm.MethodsKnown.alikeC hal (h14 hk).1, Vm.FramesKnown.alikeC hal (h14 hk).2⟩
end Layer3
end Jvm.Pilot.@@N@@
namespace Jvm.Pilot.@@N@@
open Jvm Jvm.ClassFile Sem Op Lib Bundle Jvm.Free Jvm.Stand Jvm.LawKit Jvm.RoadKit Jvm.Pilot.@@N@@.Jvm.D
theorem w0 {a0 : Array Value} {Z : State} (hw : ∀ d ∈ tables_1, d.before a0 Z = true) : ((Jvm.Cond.constant "com/example/entity_context/entitycontext/query/NumericLiteralDescribePinLaw" (7 : Nat) (2147483647 : Int32)) : Jvm.Cond).before a0 Z = true := hw _ (List.mem_of_getElem? (i := 0) rfl)
theorem w1 {a0 : Array Value} {Z : State} (hw : ∀ d ∈ tables_1, d.before a0 Z = true) : ((Jvm.Cond.arrayClass Jvm.ClassFile.FieldType.char) : Jvm.Cond).before a0 Z = true := hw _ (List.mem_of_getElem? (i := 1) rfl)
theorem w2 {a0 : Array Value} {Z : State} (hw : ∀ d ∈ tables_1, d.before a0 Z = true) : ((Jvm.Cond.classLink "com/example/entity_context/entitycontext/query/NumericLiteralDescribePinLaw" (8 : Nat) "java/lang/String") : Jvm.Cond).before a0 Z = true := hw _ (List.mem_of_getElem? (i := 2) rfl)
theorem w3 {a0 : Array Value} {Z : State} (hw : ∀ d ∈ tables_1, d.before a0 Z = true) : ((Jvm.Cond.instantiable "java/lang/String" (4 : Nat)) : Jvm.Cond).before a0 Z = true := hw _ (List.mem_of_getElem? (i := 3) rfl)
theorem w4 {a0 : Array Value} {Z : State} (hw : ∀ d ∈ tables_1, d.before a0 Z = true) : ((Jvm.Cond.initialized "java/lang/String") : Jvm.Cond).before a0 Z = true := hw _ (List.mem_of_getElem? (i := 4) rfl)
theorem w5 {a0 : Array Value} {Z : State} (hw : ∀ d ∈ tables_1, d.before a0 Z = true) : ((Jvm.Cond.methodLink "com/example/entity_context/entitycontext/query/NumericLiteralDescribePinLaw" (10 : Nat) ({ cls := "java/lang/String", name := "<init>", desc := "([C)V" } : Jvm.MethodName)) : Jvm.Cond).before a0 Z = true := hw _ (List.mem_of_getElem? (i := 5) rfl)
theorem w6 {a0 : Array Value} {Z : State} (hw : ∀ d ∈ tables_1, d.before a0 Z = true) : ((Jvm.Cond.instanceMethod ({ cls := "java/lang/String", name := "<init>", desc := "([C)V" } : Jvm.MethodName)) : Jvm.Cond).before a0 Z = true := hw _ (List.mem_of_getElem? (i := 6) rfl)
theorem w7 {a0 : Array Value} {Z : State} (hw : ∀ d ∈ tables_1, d.before a0 Z = true) : ((Jvm.Cond.code ({ cls := "java/lang/String", name := "<init>", desc := "([C)V" } : Jvm.MethodName) jdk_42_method_3_code (2 : Nat) (Option.none : Option Jvm.ClassFile.FieldType)) : Jvm.Cond).before a0 Z = true := hw _ (List.mem_of_getElem? (i := 7) rfl)
theorem w8 {a0 : Array Value} {Z : State} (hw : ∀ d ∈ tables_1, d.before a0 Z = true) : ((Jvm.Cond.methodLink "java/lang/String" (27 : Nat) ({ cls := "java/lang/String", name := "<init>", desc := "([CIILjava/lang/Void;)V" } : Jvm.MethodName)) : Jvm.Cond).before a0 Z = true := hw _ (List.mem_of_getElem? (i := 8) rfl)
theorem w9 {a0 : Array Value} {Z : State} (hw : ∀ d ∈ tables_1, d.before a0 Z = true) : ((Jvm.Cond.instanceMethod ({ cls := "java/lang/String", name := "<init>", desc := "([CIILjava/lang/Void;)V" } : Jvm.MethodName)) : Jvm.Cond).before a0 Z = true := hw _ (List.mem_of_getElem? (i := 9) rfl)
theorem w11 {a0 : Array Value} {Z : State} (hw : ∀ d ∈ tables_1, d.before a0 Z = true) : ((Jvm.Cond.code ({ cls := "java/lang/String", name := "<init>", desc := "([CIILjava/lang/Void;)V" } : Jvm.MethodName) jdk_42_method_149_code (6 : Nat) (Option.none : Option Jvm.ClassFile.FieldType)) : Jvm.Cond).before a0 Z = true := hw _ (List.mem_of_getElem? (i := 11) rfl)
theorem w12 {a0 : Array Value} {Z : State} (hw : ∀ d ∈ tables_1, d.before a0 Z = true) : ((Jvm.Cond.methodLink "java/lang/String" (1 : Nat) ({ cls := "java/lang/Object", name := "<init>", desc := "()V" } : Jvm.MethodName)) : Jvm.Cond).before a0 Z = true := hw _ (List.mem_of_getElem? (i := 12) rfl)
theorem w13 {a0 : Array Value} {Z : State} (hw : ∀ d ∈ tables_1, d.before a0 Z = true) : ((Jvm.Cond.instanceMethod ({ cls := "java/lang/Object", name := "<init>", desc := "()V" } : Jvm.MethodName)) : Jvm.Cond).before a0 Z = true := hw _ (List.mem_of_getElem? (i := 13) rfl)
theorem w14 {a0 : Array Value} {Z : State} (hw : ∀ d ∈ tables_1, d.before a0 Z = true) : ((Jvm.Cond.code ({ cls := "java/lang/Object", name := "<init>", desc := "()V" } : Jvm.MethodName) object_method_1_code (1 : Nat) (Option.none : Option Jvm.ClassFile.FieldType)) : Jvm.Cond).before a0 Z = true := hw _ (List.mem_of_getElem? (i := 14) rfl)
theorem w15 {a0 : Array Value} {Z : State} (hw : ∀ d ∈ tables_1, d.before a0 Z = true) : ((Jvm.Cond.stringLink "java/lang/String" (7 : Nat) "") : Jvm.Cond).before a0 Z = true := hw _ (List.mem_of_getElem? (i := 15) rfl)
theorem w16 {a0 : Array Value} {Z : State} (hw : ∀ d ∈ tables_1, d.before a0 Z = true) : ((Jvm.Cond.arrayClass Jvm.ClassFile.FieldType.byte) : Jvm.Cond).before a0 Z = true := hw _ (List.mem_of_getElem? (i := 16) rfl)
theorem w17 {a0 : Array Value} {Z : State} (hw : ∀ d ∈ tables_1, d.before a0 Z = true) : ((Jvm.Cond.laysFinal "java/lang/String" "java/lang/String" "value" "[B") : Jvm.Cond).before a0 Z = true := hw _ (List.mem_of_getElem? (i := 17) rfl)
theorem w18 {a0 : Array Value} {Z : State} (hw : ∀ d ∈ tables_1, d.before a0 Z = true) : ((Jvm.Cond.laysFinal "java/lang/String" "java/lang/String" "coder" "B") : Jvm.Cond).before a0 Z = true := hw _ (List.mem_of_getElem? (i := 18) rfl)
theorem w19 {a0 : Array Value} {Z : State} (hw : ∀ d ∈ tables_1, d.before a0 Z = true) : ((Jvm.Cond.soleField "java/lang/String" "value") : Jvm.Cond).before a0 Z = true := hw _ (List.mem_of_getElem? (i := 19) rfl)
theorem w20 {a0 : Array Value} {Z : State} (hw : ∀ d ∈ tables_1, d.before a0 Z = true) : ((Jvm.Cond.soleField "java/lang/String" "coder") : Jvm.Cond).before a0 Z = true := hw _ (List.mem_of_getElem? (i := 20) rfl)
theorem w21 {a0 : Array Value} {Z : State} (hw : ∀ d ∈ tables_1, d.before a0 Z = true) : ((Jvm.Cond.fieldLink "java/lang/String" (9 : Nat) "java/lang/String" "value" "[B") : Jvm.Cond).before a0 Z = true := hw _ (List.mem_of_getElem? (i := 21) rfl)
theorem w22 {a0 : Array Value} {Z : State} (hw : ∀ d ∈ tables_1, d.before a0 Z = true) : ((Jvm.Cond.fieldLink "java/lang/String" (15 : Nat) "java/lang/String" "coder" "B") : Jvm.Cond).before a0 Z = true := hw _ (List.mem_of_getElem? (i := 22) rfl)
theorem w23 {a0 : Array Value} {Z : State} (hw : ∀ d ∈ tables_1, d.before a0 Z = true) : ((Jvm.Cond.fieldLink "java/lang/String" (38 : Nat) "java/lang/String" "COMPACT_STRINGS" "Z") : Jvm.Cond).before a0 Z = true := hw _ (List.mem_of_getElem? (i := 23) rfl)
theorem w24 {a0 : Array Value} {Z : State} (hw : ∀ d ∈ tables_1, d.before a0 Z = true) : ((Jvm.Cond.methodLink "java/lang/String" (177 : Nat) ({ cls := "java/lang/StringUTF16", name := "compress", desc := "([CII)[B" } : Jvm.MethodName)) : Jvm.Cond).before a0 Z = true := hw _ (List.mem_of_getElem? (i := 24) rfl)
theorem w25 {a0 : Array Value} {Z : State} (hw : ∀ d ∈ tables_1, d.before a0 Z = true) : ((Jvm.Cond.static ({ cls := "java/lang/StringUTF16", name := "compress", desc := "([CII)[B" } : Jvm.MethodName)) : Jvm.Cond).before a0 Z = true := hw _ (List.mem_of_getElem? (i := 25) rfl)
theorem w26 {a0 : Array Value} {Z : State} (hw : ∀ d ∈ tables_1, d.before a0 Z = true) : ((Jvm.Cond.initialized "java/lang/StringUTF16") : Jvm.Cond).before a0 Z = true := hw _ (List.mem_of_getElem? (i := 26) rfl)
theorem w27 {a0 : Array Value} {Z : State} (hw : ∀ d ∈ tables_1, d.before a0 Z = true) : ((Jvm.Cond.code ({ cls := "java/lang/StringUTF16", name := "compress", desc := "([CII)[B" } : Jvm.MethodName) jdk_52_method_16_code (6 : Nat) (Option.some (Jvm.ClassFile.FieldType.array Jvm.ClassFile.FieldType.byte))) : Jvm.Cond).before a0 Z = true := hw _ (List.mem_of_getElem? (i := 27) rfl)
theorem w28 {a0 : Array Value} {Z : State} (hw : ∀ d ∈ tables_1, d.before a0 Z = true) : ((Jvm.Cond.methodLink "java/lang/StringUTF16" (115 : Nat) ({ cls := "java/lang/StringUTF16", name := "compress", desc := "([CI[BII)I" } : Jvm.MethodName)) : Jvm.Cond).before a0 Z = true := hw _ (List.mem_of_getElem? (i := 28) rfl)
theorem w29 {a0 : Array Value} {Z : State} (hw : ∀ d ∈ tables_1, d.before a0 Z = true) : ((Jvm.Cond.static ({ cls := "java/lang/StringUTF16", name := "compress", desc := "([CI[BII)I" } : Jvm.MethodName)) : Jvm.Cond).before a0 Z = true := hw _ (List.mem_of_getElem? (i := 29) rfl)
theorem w30 {a0 : Array Value} {Z : State} (hw : ∀ d ∈ tables_1, d.before a0 Z = true) : ((Jvm.Cond.code ({ cls := "java/lang/StringUTF16", name := "compress", desc := "([CI[BII)I" } : Jvm.MethodName) jdk_52_method_21_code (7 : Nat) (Option.some Jvm.ClassFile.FieldType.int)) : Jvm.Cond).before a0 Z = true := hw _ (List.mem_of_getElem? (i := 30) rfl)
theorem w31 {a0 : Array Value} {Z : State} (hw : ∀ d ∈ tables_1, d.before a0 Z = true) : ((Jvm.Cond.methodLink "java/lang/String" (47 : Nat) ({ cls := "java/lang/StringUTF16", name := "coderFromArrayLen", desc := "([BI)B" } : Jvm.MethodName)) : Jvm.Cond).before a0 Z = true := hw _ (List.mem_of_getElem? (i := 31) rfl)
theorem w32 {a0 : Array Value} {Z : State} (hw : ∀ d ∈ tables_1, d.before a0 Z = true) : ((Jvm.Cond.static ({ cls := "java/lang/StringUTF16", name := "coderFromArrayLen", desc := "([BI)B" } : Jvm.MethodName)) : Jvm.Cond).before a0 Z = true := hw _ (List.mem_of_getElem? (i := 32) rfl)
theorem w33 {a0 : Array Value} {Z : State} (hw : ∀ d ∈ tables_1, d.before a0 Z = true) : ((Jvm.Cond.code ({ cls := "java/lang/StringUTF16", name := "coderFromArrayLen", desc := "([BI)B" } : Jvm.MethodName) jdk_52_method_15_code (2 : Nat) (Option.some Jvm.ClassFile.FieldType.byte)) : Jvm.Cond).before a0 Z = true := hw _ (List.mem_of_getElem? (i := 33) rfl)
theorem w34 {a0 : Array Value} {Z : State} (hw : ∀ d ∈ tables_1, d.before a0 Z = true) : ((Jvm.Cond.classLink "com/example/entity_context/entitycontext/query/NumericLiteralDescribePinLaw" (13 : Nat) "com/example/entity_context/entitycontext/query/NumericLiteral") : Jvm.Cond).before a0 Z = true := hw _ (List.mem_of_getElem? (i := 34) rfl)
theorem w35 {a0 : Array Value} {Z : State} (hw : ∀ d ∈ tables_1, d.before a0 Z = true) : ((Jvm.Cond.instantiable "com/example/entity_context/entitycontext/query/NumericLiteral" (4 : Nat)) : Jvm.Cond).before a0 Z = true := hw _ (List.mem_of_getElem? (i := 35) rfl)
theorem w36 {a0 : Array Value} {Z : State} (hw : ∀ d ∈ tables_1, d.before a0 Z = true) : ((Jvm.Cond.initialized "com/example/entity_context/entitycontext/query/NumericLiteral") : Jvm.Cond).before a0 Z = true := hw _ (List.mem_of_getElem? (i := 36) rfl)
theorem w37 {a0 : Array Value} {Z : State} (hw : ∀ d ∈ tables_1, d.before a0 Z = true) : ((Jvm.Cond.methodLink "com/example/entity_context/entitycontext/query/NumericLiteralDescribePinLaw" (15 : Nat) ({ cls := "com/example/entity_context/entitycontext/query/NumericLiteral", name := "<init>", desc := "(Ljava/lang/String;IZLjava/lang/String;)V" } : Jvm.MethodName)) : Jvm.Cond).before a0 Z = true := hw _ (List.mem_of_getElem? (i := 37) rfl)
theorem w38 {a0 : Array Value} {Z : State} (hw : ∀ d ∈ tables_1, d.before a0 Z = true) : ((Jvm.Cond.instanceMethod ({ cls := "com/example/entity_context/entitycontext/query/NumericLiteral", name := "<init>", desc := "(Ljava/lang/String;IZLjava/lang/String;)V" } : Jvm.MethodName)) : Jvm.Cond).before a0 Z = true := hw _ (List.mem_of_getElem? (i := 38) rfl)
theorem w39 {a0 : Array Value} {Z : State} (hw : ∀ d ∈ tables_1, d.before a0 Z = true) : ((Jvm.Cond.code ({ cls := "com/example/entity_context/entitycontext/query/NumericLiteral", name := "<init>", desc := "(Ljava/lang/String;IZLjava/lang/String;)V" } : Jvm.MethodName) prog_11_method_1_code (5 : Nat) (Option.none : Option Jvm.ClassFile.FieldType)) : Jvm.Cond).before a0 Z = true := hw _ (List.mem_of_getElem? (i := 39) rfl)
theorem w40 {a0 : Array Value} {Z : State} (hw : ∀ d ∈ tables_1, d.before a0 Z = true) : ((Jvm.Cond.methodLink "com/example/entity_context/entitycontext/query/NumericLiteral" (1 : Nat) ({ cls := "java/lang/Object", name := "<init>", desc := "()V" } : Jvm.MethodName)) : Jvm.Cond).before a0 Z = true := hw _ (List.mem_of_getElem? (i := 40) rfl)
theorem w41 {a0 : Array Value} {Z : State} (hw : ∀ d ∈ tables_1, d.before a0 Z = true) : ((Jvm.Cond.fieldLink "com/example/entity_context/entitycontext/query/NumericLiteral" (7 : Nat) "com/example/entity_context/entitycontext/query/NumericLiteral" "number" "Ljava/lang/String;") : Jvm.Cond).before a0 Z = true := hw _ (List.mem_of_getElem? (i := 41) rfl)
theorem w42 {a0 : Array Value} {Z : State} (hw : ∀ d ∈ tables_1, d.before a0 Z = true) : ((Jvm.Cond.laysFinal "com/example/entity_context/entitycontext/query/NumericLiteral" "com/example/entity_context/entitycontext/query/NumericLiteral" "number" "Ljava/lang/String;") : Jvm.Cond).before a0 Z = true := hw _ (List.mem_of_getElem? (i := 42) rfl)
theorem w43 {a0 : Array Value} {Z : State} (hw : ∀ d ∈ tables_1, d.before a0 Z = true) : ((Jvm.Cond.fieldLink "com/example/entity_context/entitycontext/query/NumericLiteral" (13 : Nat) "com/example/entity_context/entitycontext/query/NumericLiteral" "radix" "I") : Jvm.Cond).before a0 Z = true := hw _ (List.mem_of_getElem? (i := 43) rfl)
theorem w44 {a0 : Array Value} {Z : State} (hw : ∀ d ∈ tables_1, d.before a0 Z = true) : ((Jvm.Cond.laysFinal "com/example/entity_context/entitycontext/query/NumericLiteral" "com/example/entity_context/entitycontext/query/NumericLiteral" "radix" "I") : Jvm.Cond).before a0 Z = true := hw _ (List.mem_of_getElem? (i := 44) rfl)
theorem w45 {a0 : Array Value} {Z : State} (hw : ∀ d ∈ tables_1, d.before a0 Z = true) : ((Jvm.Cond.fieldLink "com/example/entity_context/entitycontext/query/NumericLiteral" (17 : Nat) "com/example/entity_context/entitycontext/query/NumericLiteral" "approximate" "Z") : Jvm.Cond).before a0 Z = true := hw _ (List.mem_of_getElem? (i := 45) rfl)
theorem w46 {a0 : Array Value} {Z : State} (hw : ∀ d ∈ tables_1, d.before a0 Z = true) : ((Jvm.Cond.laysFinal "com/example/entity_context/entitycontext/query/NumericLiteral" "com/example/entity_context/entitycontext/query/NumericLiteral" "approximate" "Z") : Jvm.Cond).before a0 Z = true := hw _ (List.mem_of_getElem? (i := 46) rfl)
theorem w47 {a0 : Array Value} {Z : State} (hw : ∀ d ∈ tables_1, d.before a0 Z = true) : ((Jvm.Cond.fieldLink "com/example/entity_context/entitycontext/query/NumericLiteral" (21 : Nat) "com/example/entity_context/entitycontext/query/NumericLiteral" "suffix" "Ljava/lang/String;") : Jvm.Cond).before a0 Z = true := hw _ (List.mem_of_getElem? (i := 47) rfl)
theorem w48 {a0 : Array Value} {Z : State} (hw : ∀ d ∈ tables_1, d.before a0 Z = true) : ((Jvm.Cond.laysFinal "com/example/entity_context/entitycontext/query/NumericLiteral" "com/example/entity_context/entitycontext/query/NumericLiteral" "suffix" "Ljava/lang/String;") : Jvm.Cond).before a0 Z = true := hw _ (List.mem_of_getElem? (i := 48) rfl)
theorem w49 {a0 : Array Value} {Z : State} (hw : ∀ d ∈ tables_1, d.before a0 Z = true) : ((Jvm.Cond.methodLink "com/example/entity_context/entitycontext/query/NumericLiteralDescribePinLaw" (18 : Nat) ({ cls := "com/example/entity_context/entitycontext/query/NumericLiteral", name := "describe", desc := "()Ljava/lang/String;" } : Jvm.MethodName)) : Jvm.Cond).before a0 Z = true := hw _ (List.mem_of_getElem? (i := 49) rfl)
theorem w50 {a0 : Array Value} {Z : State} (hw : ∀ d ∈ tables_1, d.before a0 Z = true) : ((Jvm.Cond.declares ({ cls := "com/example/entity_context/entitycontext/query/NumericLiteral", name := "describe", desc := "()Ljava/lang/String;" } : Jvm.MethodName)) : Jvm.Cond).before a0 Z = true := hw _ (List.mem_of_getElem? (i := 50) rfl)
theorem w51 {a0 : Array Value} {Z : State} (hw : ∀ d ∈ tables_1, d.before a0 Z = true) : ((Jvm.Cond.instanceMethod ({ cls := "com/example/entity_context/entitycontext/query/NumericLiteral", name := "describe", desc := "()Ljava/lang/String;" } : Jvm.MethodName)) : Jvm.Cond).before a0 Z = true := hw _ (List.mem_of_getElem? (i := 51) rfl)
theorem w52 {a0 : Array Value} {Z : State} (hw : ∀ d ∈ tables_1, d.before a0 Z = true) : ((Jvm.Cond.selects "com/example/entity_context/entitycontext/query/NumericLiteral" ({ cls := "com/example/entity_context/entitycontext/query/NumericLiteral", name := "describe", desc := "()Ljava/lang/String;" } : Jvm.MethodName) ({ cls := "com/example/entity_context/entitycontext/query/NumericLiteral", name := "describe", desc := "()Ljava/lang/String;" } : Jvm.MethodName)) : Jvm.Cond).before a0 Z = true := hw _ (List.mem_of_getElem? (i := 52) rfl)
theorem w53 {a0 : Array Value} {Z : State} (hw : ∀ d ∈ tables_1, d.before a0 Z = true) : ((Jvm.Cond.code ({ cls := "com/example/entity_context/entitycontext/query/NumericLiteral", name := "describe", desc := "()Ljava/lang/String;" } : Jvm.MethodName) prog_11_method_3_code (2 : Nat) (Option.some (Jvm.ClassFile.FieldType.object "java/lang/String"))) : Jvm.Cond).before a0 Z = true := hw _ (List.mem_of_getElem? (i := 53) rfl)
theorem w54 {a0 : Array Value} {Z : State} (hw : ∀ d ∈ tables_1, d.before a0 Z = true) : ((Jvm.Cond.stringLink "com/example/entity_context/entitycontext/query/NumericLiteral" (56 : Nat) "f") : Jvm.Cond).before a0 Z = true := hw _ (List.mem_of_getElem? (i := 54) rfl)
theorem w55 {a0 : Array Value} {Z : State} (hw : ∀ d ∈ tables_1, d.before a0 Z = true) : ((Jvm.Cond.methodLink "com/example/entity_context/entitycontext/query/NumericLiteral" (26 : Nat) ({ cls := "java/lang/String", name := "equals", desc := "(Ljava/lang/Object;)Z" } : Jvm.MethodName)) : Jvm.Cond).before a0 Z = true := hw _ (List.mem_of_getElem? (i := 55) rfl)
theorem w56 {a0 : Array Value} {Z : State} (hw : ∀ d ∈ tables_1, d.before a0 Z = true) : ((Jvm.Cond.declares ({ cls := "java/lang/String", name := "equals", desc := "(Ljava/lang/Object;)Z" } : Jvm.MethodName)) : Jvm.Cond).before a0 Z = true := hw _ (List.mem_of_getElem? (i := 56) rfl)
theorem w57 {a0 : Array Value} {Z : State} (hw : ∀ d ∈ tables_1, d.before a0 Z = true) : ((Jvm.Cond.instanceMethod ({ cls := "java/lang/String", name := "equals", desc := "(Ljava/lang/Object;)Z" } : Jvm.MethodName)) : Jvm.Cond).before a0 Z = true := hw _ (List.mem_of_getElem? (i := 57) rfl)
theorem w58 {a0 : Array Value} {Z : State} (hw : ∀ d ∈ tables_1, d.before a0 Z = true) : ((Jvm.Cond.selects "java/lang/String" ({ cls := "java/lang/String", name := "equals", desc := "(Ljava/lang/Object;)Z" } : Jvm.MethodName) ({ cls := "java/lang/String", name := "equals", desc := "(Ljava/lang/Object;)Z" } : Jvm.MethodName)) : Jvm.Cond).before a0 Z = true := hw _ (List.mem_of_getElem? (i := 58) rfl)
theorem w59 {a0 : Array Value} {Z : State} (hw : ∀ d ∈ tables_1, d.before a0 Z = true) : ((Jvm.Cond.code ({ cls := "java/lang/String", name := "equals", desc := "(Ljava/lang/Object;)Z" } : Jvm.MethodName) jdk_42_method_66_code (3 : Nat) (Option.some Jvm.ClassFile.FieldType.boolean)) : Jvm.Cond).before a0 Z = true := hw _ (List.mem_of_getElem? (i := 59) rfl)
theorem w60 {a0 : Array Value} {Z : State} (hw : ∀ d ∈ tables_1, d.before a0 Z = true) : ((Jvm.Cond.classLink "java/lang/String" (10 : Nat) "java/lang/String") : Jvm.Cond).before a0 Z = true := hw _ (List.mem_of_getElem? (i := 60) rfl)
theorem w61 {a0 : Array Value} {Z : State} (hw : ∀ d ∈ tables_1, d.before a0 Z = true) : ((Jvm.Cond.methodLink "java/lang/String" (541 : Nat) ({ cls := "java/lang/StringLatin1", name := "equals", desc := "([B[B)Z" } : Jvm.MethodName)) : Jvm.Cond).before a0 Z = true := hw _ (List.mem_of_getElem? (i := 61) rfl)
theorem w62 {a0 : Array Value} {Z : State} (hw : ∀ d ∈ tables_1, d.before a0 Z = true) : ((Jvm.Cond.static ({ cls := "java/lang/StringLatin1", name := "equals", desc := "([B[B)Z" } : Jvm.MethodName)) : Jvm.Cond).before a0 Z = true := hw _ (List.mem_of_getElem? (i := 62) rfl)
theorem w63 {a0 : Array Value} {Z : State} (hw : ∀ d ∈ tables_1, d.before a0 Z = true) : ((Jvm.Cond.initialized "java/lang/StringLatin1") : Jvm.Cond).before a0 Z = true := hw _ (List.mem_of_getElem? (i := 63) rfl)
theorem w64 {a0 : Array Value} {Z : State} (hw : ∀ d ∈ tables_1, d.before a0 Z = true) : ((Jvm.Cond.code ({ cls := "java/lang/StringLatin1", name := "equals", desc := "([B[B)Z" } : Jvm.MethodName) jdk_43_method_13_code (3 : Nat) (Option.some Jvm.ClassFile.FieldType.boolean)) : Jvm.Cond).before a0 Z = true := hw _ (List.mem_of_getElem? (i := 64) rfl)
theorem w65 {a0 : Array Value} {Z : State} (hw : ∀ d ∈ tables_1, d.before a0 Z = true) : ((Jvm.Cond.stringLink "com/example/entity_context/entitycontext/query/NumericLiteral" (82 : Nat) "the decimal") : Jvm.Cond).before a0 Z = true := hw _ (List.mem_of_getElem? (i := 65) rfl)
theorem w66 {a0 : Array Value} {Z : State} (hw : ∀ d ∈ tables_1, d.before a0 Z = true) : ((Jvm.Cond.stringLink "com/example/entity_context/entitycontext/query/NumericLiteralDescribePinLaw" (24 : Nat) "the decimal") : Jvm.Cond).before a0 Z = true := hw _ (List.mem_of_getElem? (i := 66) rfl)
theorem w67 {a0 : Array Value} {Z : State} (hw : ∀ d ∈ tables_1, d.before a0 Z = true) : ((Jvm.Cond.methodLink "com/example/entity_context/entitycontext/query/NumericLiteralDescribePinLaw" (28 : Nat) ({ cls := "java/lang/String", name := "equals", desc := "(Ljava/lang/Object;)Z" } : Jvm.MethodName)) : Jvm.Cond).before a0 Z = true := hw _ (List.mem_of_getElem? (i := 67) rfl)
theorem w68 {a0 : Array Value} {Z : State} (hw : ∀ d ∈ tables_1, d.before a0 Z = true) : ((Jvm.Cond.stringLink "com/example/entity_context/entitycontext/query/NumericLiteral" (36 : Nat) "d") : Jvm.Cond).before a0 Z = true := hw _ (List.mem_of_getElem? (i := 68) rfl)
theorem w69 {a0 : Array Value} {Z : State} (hw : ∀ d ∈ tables_1, d.before a0 Z = true) : ((Jvm.Cond.stringLink "com/example/entity_context/entitycontext/query/NumericLiteral" (80 : Nat) "bd") : Jvm.Cond).before a0 Z = true := hw _ (List.mem_of_getElem? (i := 69) rfl)
theorem w70 {a0 : Array Value} {Z : State} (hw : ∀ d ∈ tables_1, d.before a0 Z = true) : ((Jvm.Cond.stringLink "com/example/entity_context/entitycontext/query/NumericLiteral" (84 : Nat) "the integer") : Jvm.Cond).before a0 Z = true := hw _ (List.mem_of_getElem? (i := 70) rfl)
theorem w71 {a0 : Array Value} {Z : State} (hw : ∀ d ∈ tables_1, d.before a0 Z = true) : ((Jvm.Cond.stringLink "com/example/entity_context/entitycontext/query/NumericLiteralDescribePinLaw" (26 : Nat) "the integer") : Jvm.Cond).before a0 Z = true := hw _ (List.mem_of_getElem? (i := 71) rfl)
theorem w72 {a0 : Array Value} {Z : State} (hw : ∀ d ∈ tables_1, d.before a0 Z = true) : ((Jvm.Cond.stringLink "com/example/entity_context/entitycontext/query/NumericLiteral" (78 : Nat) "the float") : Jvm.Cond).before a0 Z = true := hw _ (List.mem_of_getElem? (i := 72) rfl)
theorem w73 {a0 : Array Value} {Z : State} (hw : ∀ d ∈ tables_1, d.before a0 Z = true) : ((Jvm.Cond.stringLink "com/example/entity_context/entitycontext/query/NumericLiteralDescribePinLaw" (22 : Nat) "the float") : Jvm.Cond).before a0 Z = true := hw _ (List.mem_of_getElem? (i := 73) rfl)
theorem wStr {a0 : Array Value} {Z : State} (hw : ∀ d ∈ tables_1, d.before a0 Z = true) : ∀ d ∈ Bundle.stringAtoms, d.before a0 Z = true := fun d hd => by
  simp only [Bundle.stringAtoms, List.mem_cons, List.not_mem_nil, or_false] at hd
  rcases hd with rfl | rfl | rfl | rfl | rfl | rfl | rfl
  · exact (w4 hw)
  · exact (w3 hw)
  · exact (w16 hw)
  · exact (w17 hw)
  · exact (w18 hw)
  · exact (w19 hw)
  · exact (w20 hw)
abbrev EL1 : List (String × Nat) := consts_1
theorem ew {a0 : Array Value} {Z : State} (hw : ∀ d ∈ tables_1, d.before a0 Z = true) : EW Z a0 EL1 := EW.cons (w68 hw) (by decide) (EW.cons (w54 hw) (by decide) (EW.cons (w72 hw) (by decide) (EW.cons (w69 hw) (by decide) (EW.cons (w65 hw) (by decide) (EW.cons (w70 hw) (by decide) (EW.cons (w73 hw) (by decide) (EW.cons (w66 hw) (by decide) (EW.cons (w71 hw) (by decide) (EW.cons (w15 hw) (by decide) (EW.nil))))))))))
theorem d_sini4_0 : decode jdk_42_method_149_code 0 = .ok (.aload_n 0, 1) := by decide +kernel
theorem d_sini4_1 : decode jdk_42_method_149_code 1 = .ok (.invokespecial 1, 3) := by decide +kernel
theorem d_sini4_4 : decode jdk_42_method_149_code 4 = .ok (.iload_n 3, 1) := by decide +kernel
theorem d_sini4_5 : decode jdk_42_method_149_code 5 = .ok (.ifCond .ne 22, 3) := by decide +kernel
theorem d_sini4_8 : decode jdk_42_method_149_code 8 = .ok (.aload_n 0, 1) := by decide +kernel
theorem d_sini4_9 : decode jdk_42_method_149_code 9 = .ok (.ldc 7, 2) := by decide +kernel
theorem d_sini4_11 : decode jdk_42_method_149_code 11 = .ok (.getfield 9, 3) := by decide +kernel
theorem d_sini4_14 : decode jdk_42_method_149_code 14 = .ok (.putfield 9, 3) := by decide +kernel
theorem d_sini4_17 : decode jdk_42_method_149_code 17 = .ok (.aload_n 0, 1) := by decide +kernel
theorem d_sini4_18 : decode jdk_42_method_149_code 18 = .ok (.ldc 7, 2) := by decide +kernel
theorem d_sini4_20 : decode jdk_42_method_149_code 20 = .ok (.getfield 15, 3) := by decide +kernel
theorem d_sini4_23 : decode jdk_42_method_149_code 23 = .ok (.putfield 15, 3) := by decide +kernel
theorem d_sini4_26 : decode jdk_42_method_149_code 26 = .ok (.return_, 1) := by decide +kernel
theorem d_sini4_27 : decode jdk_42_method_149_code 27 = .ok (.getstatic 38, 3) := by decide +kernel
theorem d_sini4_30 : decode jdk_42_method_149_code 30 = .ok (.ifCond .eq 28, 3) := by decide +kernel
theorem d_sini4_33 : decode jdk_42_method_149_code 33 = .ok (.aload_n 1, 1) := by decide +kernel
theorem d_sini4_34 : decode jdk_42_method_149_code 34 = .ok (.iload_n 2, 1) := by decide +kernel
theorem d_sini4_35 : decode jdk_42_method_149_code 35 = .ok (.iload_n 3, 1) := by decide +kernel
theorem d_sini4_36 : decode jdk_42_method_149_code 36 = .ok (.invokestatic 177, 3) := by decide +kernel
theorem d_sini4_39 : decode jdk_42_method_149_code 39 = .ok (.astore 5, 2) := by decide +kernel
theorem d_sini4_41 : decode jdk_42_method_149_code 41 = .ok (.aload_n 0, 1) := by decide +kernel
theorem d_sini4_42 : decode jdk_42_method_149_code 42 = .ok (.aload 5, 2) := by decide +kernel
theorem d_sini4_44 : decode jdk_42_method_149_code 44 = .ok (.iload_n 3, 1) := by decide +kernel
theorem d_sini4_45 : decode jdk_42_method_149_code 45 = .ok (.invokestatic 47, 3) := by decide +kernel
theorem d_sini4_48 : decode jdk_42_method_149_code 48 = .ok (.putfield 15, 3) := by decide +kernel
theorem d_sini4_51 : decode jdk_42_method_149_code 51 = .ok (.aload_n 0, 1) := by decide +kernel
theorem d_sini4_52 : decode jdk_42_method_149_code 52 = .ok (.aload 5, 2) := by decide +kernel
theorem d_sini4_54 : decode jdk_42_method_149_code 54 = .ok (.putfield 9, 3) := by decide +kernel
theorem d_sini4_57 : decode jdk_42_method_149_code 57 = .ok (.return_, 1) := by decide +kernel
theorem d_sini1_0 : decode jdk_42_method_3_code 0 = .ok (.aload_n 0, 1) := by decide +kernel
theorem d_sini1_1 : decode jdk_42_method_3_code 1 = .ok (.aload_n 1, 1) := by decide +kernel
theorem d_sini1_2 : decode jdk_42_method_3_code 2 = .ok (.iconst 0, 1) := by decide +kernel
theorem d_sini1_3 : decode jdk_42_method_3_code 3 = .ok (.aload_n 1, 1) := by decide +kernel
theorem d_sini1_4 : decode jdk_42_method_3_code 4 = .ok (.arraylength, 1) := by decide +kernel
theorem d_sini1_5 : decode jdk_42_method_3_code 5 = .ok (.aconst_null, 1) := by decide +kernel
theorem d_sini1_6 : decode jdk_42_method_3_code 6 = .ok (.invokespecial 27, 3) := by decide +kernel
theorem d_sini1_9 : decode jdk_42_method_3_code 9 = .ok (.return_, 1) := by decide +kernel
theorem d_seq_0 : decode jdk_42_method_66_code 0 = .ok (.aload_n 0, 1) := by decide +kernel
theorem d_seq_1 : decode jdk_42_method_66_code 1 = .ok (.aload_n 1, 1) := by decide +kernel
theorem d_seq_2 : decode jdk_42_method_66_code 2 = .ok (.if_acmp .ne 5, 3) := by decide +kernel
theorem d_seq_5 : decode jdk_42_method_66_code 5 = .ok (.iconst 1, 1) := by decide +kernel
theorem d_seq_6 : decode jdk_42_method_66_code 6 = .ok (.ireturn, 1) := by decide +kernel
theorem d_seq_7 : decode jdk_42_method_66_code 7 = .ok (.aload_n 1, 1) := by decide +kernel
theorem d_seq_8 : decode jdk_42_method_66_code 8 = .ok (.instanceof 10, 3) := by decide +kernel
theorem d_seq_11 : decode jdk_42_method_66_code 11 = .ok (.ifCond .eq 43, 3) := by decide +kernel
theorem d_seq_14 : decode jdk_42_method_66_code 14 = .ok (.aload_n 1, 1) := by decide +kernel
theorem d_seq_15 : decode jdk_42_method_66_code 15 = .ok (.checkcast 10, 3) := by decide +kernel
theorem d_seq_18 : decode jdk_42_method_66_code 18 = .ok (.astore_n 2, 1) := by decide +kernel
theorem d_seq_19 : decode jdk_42_method_66_code 19 = .ok (.getstatic 38, 3) := by decide +kernel
theorem d_seq_22 : decode jdk_42_method_66_code 22 = .ok (.ifCond .eq 14, 3) := by decide +kernel
theorem d_seq_25 : decode jdk_42_method_66_code 25 = .ok (.aload_n 0, 1) := by decide +kernel
theorem d_seq_26 : decode jdk_42_method_66_code 26 = .ok (.getfield 15, 3) := by decide +kernel
theorem d_seq_29 : decode jdk_42_method_66_code 29 = .ok (.aload_n 2, 1) := by decide +kernel
theorem d_seq_30 : decode jdk_42_method_66_code 30 = .ok (.getfield 15, 3) := by decide +kernel
theorem d_seq_33 : decode jdk_42_method_66_code 33 = .ok (.if_icmp .ne 21, 3) := by decide +kernel
theorem d_seq_36 : decode jdk_42_method_66_code 36 = .ok (.aload_n 0, 1) := by decide +kernel
theorem d_seq_37 : decode jdk_42_method_66_code 37 = .ok (.getfield 9, 3) := by decide +kernel
theorem d_seq_40 : decode jdk_42_method_66_code 40 = .ok (.aload_n 2, 1) := by decide +kernel
theorem d_seq_41 : decode jdk_42_method_66_code 41 = .ok (.getfield 9, 3) := by decide +kernel
theorem d_seq_44 : decode jdk_42_method_66_code 44 = .ok (.invokestatic 541, 3) := by decide +kernel
theorem d_seq_47 : decode jdk_42_method_66_code 47 = .ok (.ifCond .eq 7, 3) := by decide +kernel
theorem d_seq_50 : decode jdk_42_method_66_code 50 = .ok (.iconst 1, 1) := by decide +kernel
theorem d_seq_51 : decode jdk_42_method_66_code 51 = .ok (.goto 4, 3) := by decide +kernel
theorem d_seq_54 : decode jdk_42_method_66_code 54 = .ok (.iconst 0, 1) := by decide +kernel
theorem d_seq_55 : decode jdk_42_method_66_code 55 = .ok (.ireturn, 1) := by decide +kernel
theorem d_leq_0 : decode jdk_43_method_13_code 0 = .ok (.aload_n 0, 1) := by decide +kernel
theorem d_leq_1 : decode jdk_43_method_13_code 1 = .ok (.arraylength, 1) := by decide +kernel
theorem d_leq_2 : decode jdk_43_method_13_code 2 = .ok (.aload_n 1, 1) := by decide +kernel
theorem d_leq_3 : decode jdk_43_method_13_code 3 = .ok (.arraylength, 1) := by decide +kernel
theorem d_leq_4 : decode jdk_43_method_13_code 4 = .ok (.if_icmp .ne 30, 3) := by decide +kernel
theorem d_leq_7 : decode jdk_43_method_13_code 7 = .ok (.iconst 0, 1) := by decide +kernel
theorem d_leq_8 : decode jdk_43_method_13_code 8 = .ok (.istore_n 2, 1) := by decide +kernel
theorem d_leq_9 : decode jdk_43_method_13_code 9 = .ok (.iload_n 2, 1) := by decide +kernel
theorem d_leq_10 : decode jdk_43_method_13_code 10 = .ok (.aload_n 0, 1) := by decide +kernel
theorem d_leq_11 : decode jdk_43_method_13_code 11 = .ok (.arraylength, 1) := by decide +kernel
theorem d_leq_12 : decode jdk_43_method_13_code 12 = .ok (.if_icmp .ge 20, 3) := by decide +kernel
theorem d_leq_15 : decode jdk_43_method_13_code 15 = .ok (.aload_n 0, 1) := by decide +kernel
theorem d_leq_16 : decode jdk_43_method_13_code 16 = .ok (.iload_n 2, 1) := by decide +kernel
theorem d_leq_17 : decode jdk_43_method_13_code 17 = .ok (.baload, 1) := by decide +kernel
theorem d_leq_18 : decode jdk_43_method_13_code 18 = .ok (.aload_n 1, 1) := by decide +kernel
theorem d_leq_19 : decode jdk_43_method_13_code 19 = .ok (.iload_n 2, 1) := by decide +kernel
theorem d_leq_20 : decode jdk_43_method_13_code 20 = .ok (.baload, 1) := by decide +kernel
theorem d_leq_21 : decode jdk_43_method_13_code 21 = .ok (.if_icmp .eq 5, 3) := by decide +kernel
theorem d_leq_24 : decode jdk_43_method_13_code 24 = .ok (.iconst 0, 1) := by decide +kernel
theorem d_leq_25 : decode jdk_43_method_13_code 25 = .ok (.ireturn, 1) := by decide +kernel
theorem d_leq_26 : decode jdk_43_method_13_code 26 = .ok (.iinc 2 1, 3) := by decide +kernel
theorem d_leq_29 : decode jdk_43_method_13_code 29 = .ok (.goto (-20), 3) := by decide +kernel
theorem d_leq_32 : decode jdk_43_method_13_code 32 = .ok (.iconst 1, 1) := by decide +kernel
theorem d_leq_33 : decode jdk_43_method_13_code 33 = .ok (.ireturn, 1) := by decide +kernel
theorem d_leq_34 : decode jdk_43_method_13_code 34 = .ok (.iconst 0, 1) := by decide +kernel
theorem d_leq_35 : decode jdk_43_method_13_code 35 = .ok (.ireturn, 1) := by decide +kernel
theorem d_cfal_0 : decode jdk_52_method_15_code 0 = .ok (.iload_n 1, 1) := by decide +kernel
theorem d_cfal_1 : decode jdk_52_method_15_code 1 = .ok (.aload_n 0, 1) := by decide +kernel
theorem d_cfal_2 : decode jdk_52_method_15_code 2 = .ok (.arraylength, 1) := by decide +kernel
theorem d_cfal_3 : decode jdk_52_method_15_code 3 = .ok (.isub, 1) := by decide +kernel
theorem d_cfal_4 : decode jdk_52_method_15_code 4 = .ok (.bipush 31, 2) := by decide +kernel
theorem d_cfal_6 : decode jdk_52_method_15_code 6 = .ok (.iushr, 1) := by decide +kernel
theorem d_cfal_7 : decode jdk_52_method_15_code 7 = .ok (.i2b, 1) := by decide +kernel
theorem d_cfal_8 : decode jdk_52_method_15_code 8 = .ok (.ireturn, 1) := by decide +kernel
theorem d_cmp3_0 : decode jdk_52_method_16_code 0 = .ok (.iload_n 2, 1) := by decide +kernel
theorem d_cmp3_1 : decode jdk_52_method_16_code 1 = .ok (.newarray .byte, 2) := by decide +kernel
theorem d_cmp3_3 : decode jdk_52_method_16_code 3 = .ok (.astore_n 3, 1) := by decide +kernel
theorem d_cmp3_4 : decode jdk_52_method_16_code 4 = .ok (.aload_n 0, 1) := by decide +kernel
theorem d_cmp3_5 : decode jdk_52_method_16_code 5 = .ok (.iload_n 1, 1) := by decide +kernel
theorem d_cmp3_6 : decode jdk_52_method_16_code 6 = .ok (.aload_n 3, 1) := by decide +kernel
theorem d_cmp3_7 : decode jdk_52_method_16_code 7 = .ok (.iconst 0, 1) := by decide +kernel
theorem d_cmp3_8 : decode jdk_52_method_16_code 8 = .ok (.iload_n 2, 1) := by decide +kernel
theorem d_cmp3_9 : decode jdk_52_method_16_code 9 = .ok (.invokestatic 115, 3) := by decide +kernel
theorem d_cmp3_12 : decode jdk_52_method_16_code 12 = .ok (.istore 4, 2) := by decide +kernel
theorem d_cmp3_14 : decode jdk_52_method_16_code 14 = .ok (.iload 4, 2) := by decide +kernel
theorem d_cmp3_16 : decode jdk_52_method_16_code 16 = .ok (.iload_n 2, 1) := by decide +kernel
theorem d_cmp3_17 : decode jdk_52_method_16_code 17 = .ok (.if_icmp .eq 40, 3) := by decide +kernel
theorem d_cmp3_57 : decode jdk_52_method_16_code 57 = .ok (.aload_n 3, 1) := by decide +kernel
theorem d_cmp3_58 : decode jdk_52_method_16_code 58 = .ok (.areturn, 1) := by decide +kernel
theorem d_cmp5_0 : decode jdk_52_method_21_code 0 = .ok (.iconst 0, 1) := by decide +kernel
theorem d_cmp5_1 : decode jdk_52_method_21_code 1 = .ok (.istore 5, 2) := by decide +kernel
theorem d_cmp5_3 : decode jdk_52_method_21_code 3 = .ok (.iload 5, 2) := by decide +kernel
theorem d_cmp5_5 : decode jdk_52_method_21_code 5 = .ok (.iload 4, 2) := by decide +kernel
theorem d_cmp5_7 : decode jdk_52_method_21_code 7 = .ok (.if_icmp .ge 37, 3) := by decide +kernel
theorem d_cmp5_10 : decode jdk_52_method_21_code 10 = .ok (.aload_n 0, 1) := by decide +kernel
theorem d_cmp5_11 : decode jdk_52_method_21_code 11 = .ok (.iload_n 1, 1) := by decide +kernel
theorem d_cmp5_12 : decode jdk_52_method_21_code 12 = .ok (.caload, 1) := by decide +kernel
theorem d_cmp5_13 : decode jdk_52_method_21_code 13 = .ok (.istore 6, 2) := by decide +kernel
theorem d_cmp5_15 : decode jdk_52_method_21_code 15 = .ok (.iload 6, 2) := by decide +kernel
theorem d_cmp5_17 : decode jdk_52_method_21_code 17 = .ok (.sipush 255, 3) := by decide +kernel
theorem d_cmp5_20 : decode jdk_52_method_21_code 20 = .ok (.if_icmp .le 6, 3) := by decide +kernel
theorem d_cmp5_26 : decode jdk_52_method_21_code 26 = .ok (.aload_n 2, 1) := by decide +kernel
theorem d_cmp5_27 : decode jdk_52_method_21_code 27 = .ok (.iload_n 3, 1) := by decide +kernel
theorem d_cmp5_28 : decode jdk_52_method_21_code 28 = .ok (.iload 6, 2) := by decide +kernel
theorem d_cmp5_30 : decode jdk_52_method_21_code 30 = .ok (.i2b, 1) := by decide +kernel
theorem d_cmp5_31 : decode jdk_52_method_21_code 31 = .ok (.bastore, 1) := by decide +kernel
theorem d_cmp5_32 : decode jdk_52_method_21_code 32 = .ok (.iinc 1 1, 3) := by decide +kernel
theorem d_cmp5_35 : decode jdk_52_method_21_code 35 = .ok (.iinc 3 1, 3) := by decide +kernel
theorem d_cmp5_38 : decode jdk_52_method_21_code 38 = .ok (.iinc 5 1, 3) := by decide +kernel
theorem d_cmp5_41 : decode jdk_52_method_21_code 41 = .ok (.goto (-38), 3) := by decide +kernel
theorem d_cmp5_44 : decode jdk_52_method_21_code 44 = .ok (.iload 4, 2) := by decide +kernel
theorem d_cmp5_46 : decode jdk_52_method_21_code 46 = .ok (.ireturn, 1) := by decide +kernel
theorem d_nini_0 : decode prog_11_method_1_code 0 = .ok (.aload_n 0, 1) := by decide +kernel
theorem d_nini_1 : decode prog_11_method_1_code 1 = .ok (.invokespecial 1, 3) := by decide +kernel
theorem d_nini_4 : decode prog_11_method_1_code 4 = .ok (.aload_n 0, 1) := by decide +kernel
theorem d_nini_5 : decode prog_11_method_1_code 5 = .ok (.aload_n 1, 1) := by decide +kernel
theorem d_nini_6 : decode prog_11_method_1_code 6 = .ok (.putfield 7, 3) := by decide +kernel
theorem d_nini_9 : decode prog_11_method_1_code 9 = .ok (.aload_n 0, 1) := by decide +kernel
theorem d_nini_10 : decode prog_11_method_1_code 10 = .ok (.iload_n 2, 1) := by decide +kernel
theorem d_nini_11 : decode prog_11_method_1_code 11 = .ok (.putfield 13, 3) := by decide +kernel
theorem d_nini_14 : decode prog_11_method_1_code 14 = .ok (.aload_n 0, 1) := by decide +kernel
theorem d_nini_15 : decode prog_11_method_1_code 15 = .ok (.iload_n 3, 1) := by decide +kernel
theorem d_nini_16 : decode prog_11_method_1_code 16 = .ok (.putfield 17, 3) := by decide +kernel
theorem d_nini_19 : decode prog_11_method_1_code 19 = .ok (.aload_n 0, 1) := by decide +kernel
theorem d_nini_20 : decode prog_11_method_1_code 20 = .ok (.aload 4, 2) := by decide +kernel
theorem d_nini_22 : decode prog_11_method_1_code 22 = .ok (.putfield 21, 3) := by decide +kernel
theorem d_nini_25 : decode prog_11_method_1_code 25 = .ok (.return_, 1) := by decide +kernel
theorem d_desc_0 : decode prog_11_method_3_code 0 = .ok (.aload_n 0, 1) := by decide +kernel
theorem d_desc_1 : decode prog_11_method_3_code 1 = .ok (.getfield 21, 3) := by decide +kernel
theorem d_desc_4 : decode prog_11_method_3_code 4 = .ok (.ldc 56, 2) := by decide +kernel
theorem d_desc_6 : decode prog_11_method_3_code 6 = .ok (.invokevirtual 26, 3) := by decide +kernel
theorem d_desc_9 : decode prog_11_method_3_code 9 = .ok (.ifCond .eq 9, 3) := by decide +kernel
theorem d_desc_12 : decode prog_11_method_3_code 12 = .ok (.ldc 78, 2) := by decide +kernel
theorem d_desc_14 : decode prog_11_method_3_code 14 = .ok (.astore_n 1, 1) := by decide +kernel
theorem d_desc_15 : decode prog_11_method_3_code 15 = .ok (.goto 43, 3) := by decide +kernel
theorem d_desc_18 : decode prog_11_method_3_code 18 = .ok (.aload_n 0, 1) := by decide +kernel
theorem d_desc_19 : decode prog_11_method_3_code 19 = .ok (.getfield 17, 3) := by decide +kernel
theorem d_desc_22 : decode prog_11_method_3_code 22 = .ok (.ifCond .ne 27, 3) := by decide +kernel
theorem d_desc_25 : decode prog_11_method_3_code 25 = .ok (.aload_n 0, 1) := by decide +kernel
theorem d_desc_26 : decode prog_11_method_3_code 26 = .ok (.getfield 21, 3) := by decide +kernel
theorem d_desc_29 : decode prog_11_method_3_code 29 = .ok (.ldc 36, 2) := by decide +kernel
theorem d_desc_31 : decode prog_11_method_3_code 31 = .ok (.invokevirtual 26, 3) := by decide +kernel
theorem d_desc_34 : decode prog_11_method_3_code 34 = .ok (.ifCond .ne 15, 3) := by decide +kernel
theorem d_desc_37 : decode prog_11_method_3_code 37 = .ok (.aload_n 0, 1) := by decide +kernel
theorem d_desc_38 : decode prog_11_method_3_code 38 = .ok (.getfield 21, 3) := by decide +kernel
theorem d_desc_41 : decode prog_11_method_3_code 41 = .ok (.ldc 80, 2) := by decide +kernel
theorem d_desc_43 : decode prog_11_method_3_code 43 = .ok (.invokevirtual 26, 3) := by decide +kernel
theorem d_desc_46 : decode prog_11_method_3_code 46 = .ok (.ifCond .eq 9, 3) := by decide +kernel
theorem d_desc_49 : decode prog_11_method_3_code 49 = .ok (.ldc 82, 2) := by decide +kernel
theorem d_desc_51 : decode prog_11_method_3_code 51 = .ok (.astore_n 1, 1) := by decide +kernel
theorem d_desc_52 : decode prog_11_method_3_code 52 = .ok (.goto 6, 3) := by decide +kernel
theorem d_desc_55 : decode prog_11_method_3_code 55 = .ok (.ldc 84, 2) := by decide +kernel
theorem d_desc_57 : decode prog_11_method_3_code 57 = .ok (.astore_n 1, 1) := by decide +kernel
theorem d_desc_58 : decode prog_11_method_3_code 58 = .ok (.aload_n 1, 1) := by decide +kernel
theorem d_desc_59 : decode prog_11_method_3_code 59 = .ok (.areturn, 1) := by decide +kernel
/-- a char's low byte, signed: what a Latin-1 String holds of it -/
def b8 (c : Int32) : Int32 := c.toInt8.toInt32
theorem b8_b8 (c : Int32) : (b8 c).toInt8.toInt32 = b8 c := by simp [b8]
theorem set_next {f : Int32 → Value} {cs : List Int32} {i k : Nat} {z : Value} (hi : i < cs.length) : ((cs.take i).map f ++ List.replicate (k + 1) z).set i (f cs[i]) = (cs.take (i + 1)).map f ++ List.replicate k z := by
  have hl : ((cs.take i).map f).length = i := by simp; omega
  have e : (cs.take (i + 1)).map f = (cs.take i).map f ++ [f cs[i]] := by
    rw [List.take_add_one, List.getElem?_eq_getElem hi, List.map_append]; rfl
  rw [List.set_append_right _ _ (by omega), hl, Nat.sub_self, List.replicate_succ, List.set_cons_zero, e, List.append_assoc]; rfl
theorem hcs0 : ∀ d ∈ ([] : List Int32), ¬ d < 0 ∧ ¬ 255 < d := fun d hd => nomatch hd
theorem hcsC {c : Int32} {cs : List Int32} (p : ¬ c < 0 ∧ ¬ 255 < c) (q : ∀ d ∈ cs, ¬ d < 0 ∧ ¬ 255 < d) : ∀ d ∈ c :: cs, ¬ d < 0 ∧ ¬ 255 < d := fun d hd => (List.mem_cons.mp hd).elim (fun e => e ▸ p) (q d)
theorem sub1 {a : Addr} {sf : List Addr} (h : a ∈ sf) : ∀ z ∈ [a], z ∈ sf := fun z hz => by cases List.mem_singleton.mp hz; exact h
theorem sub0 {sf : List Addr} : ∀ z ∈ ([] : List Addr), z ∈ sf := fun z hz => nomatch hz
theorem nar_c {c : Int32} (h0 : ¬ c < 0) (h1 : ¬ 255 < c) : nar .char c = c := by
  have q : c &&& 255 = c := by
    rw [← Int32.toInt_inj, c_mask c 255 8 (by omega) (by decide)]
    rw [Int32.lt_iff_toInt_lt] at h0 h1
    have e1 : (0 : Int32).toInt = 0 := by decide
    have e2 : (255 : Int32).toInt = 255 := by decide
    omega
  show c.toUInt32.toUInt16.toUInt32.toInt32 = c
  have := i2c_mask c
  rw [q] at this; exact this
theorem chr_rng (x : Int32) : ¬ (x &&& 255).toUInt32.toUInt16.toUInt32.toInt32 < 0 ∧ ¬ 255 < (x &&& 255).toUInt32.toUInt16.toUInt32.toInt32 := by
  rw [i2c_mask]
  have h := c_mask x 255 8 (by omega) (by decide)
  rw [Int32.lt_iff_toInt_lt, Int32.lt_iff_toInt_lt, h]
  have e1 : (0 : Int32).toInt = 0 := by decide
  have e2 : (255 : Int32).toInt = 255 := by decide
  rw [e1, e2]
  omega
theorem b8_inj {a c : Int32} (ha : ¬ a < 0 ∧ ¬ 255 < a) (hc : ¬ c < 0 ∧ ¬ 255 < c) (q : b8 a = b8 c) : a = c := by
  have h1 := c_i2b a
  have h2 := c_i2b c
  have e := congrArg Int32.toInt q
  unfold b8 at e
  obtain ⟨a1, a2⟩ := ha
  obtain ⟨c1, c2⟩ := hc
  rw [Int32.lt_iff_toInt_lt] at a1 a2 c1 c2
  have e1 : (0 : Int32).toInt = 0 := by decide
  have e2 : (255 : Int32).toInt = 255 := by decide
  rw [← Int32.toInt_inj]
  omega
def b_cmp5 : Bx := (({ frames := 0, cells := 0, slots := 0, locals := 0 } : Room), (⟨"java/lang/StringUTF16", "compress", "([CI[BII)I"⟩ : MethodName), jdk_52_method_21_code, 7, (Option.some Jvm.ClassFile.FieldType.int))
theorem ef_cmp5 (a d : Addr) (cs : List Int32) (mI : MethodId) : entryFrame mI #[.ref a, .int (0 : Int32), .ref d, .int (0 : Int32), .int (Int32.ofNat cs.length)] 7 = mkF mI 0 #[.val (.ref a), .val (.int (0 : Int32)), .val (.ref d), .val (.int (0 : Int32)), .val (.int (Int32.ofNat cs.length)), .unset, .unset] [] := by first | (simp [entryFrame, mkF, argsToLocals, Value.category]; done) | rfl
theorem pn_java_lang_StringUTF16 : plainName "java/lang/StringUTF16" = true := by first | (simp [plainName, overriddenIn]; done) | decide +kernel
theorem pd_cmp5 : parseMethodDescriptor "([CI[BII)I" = some ⟨[(.array .char), .int, (.array .byte), .int, .int], some .int⟩ := by decide +kernel
set_option maxRecDepth 65536 in
set_option maxHeartbeats 4000000 in
theorem ct_cmp5 {a0 : Array Value} {Z : State} (hw : ∀ d ∈ tables_1, d.before a0 Z = true) (l : Launch) (nar kn : Bool) (hnr : nar = false) (h0 : Heap) (a d : Addr) (cs : List Int32) (Fa : Ar Z h0 a .char (cs.map Value.int)) (Fd : Ar Z h0 d .byte (List.replicate cs.length (.int 0))) (hne : a ≠ d) (hcs : ∀ c ∈ cs, ¬ c < 0 ∧ ¬ 255 < c) :
    Ct l Z EL1 (⟨"java/lang/StringUTF16", "compress", "([CI[BII)I"⟩ : MethodName) jdk_52_method_21_code 7 (Option.some Jvm.ClassFile.FieldType.int) ({ frames := 0, cells := 0, slots := 0, locals := 0 } : Room) #[.ref a, .int (0 : Int32), .ref d, .int (0 : Int32), .int (Int32.ofNat cs.length)] h0 [d] nar kn (fun v h sn => v = some (.int (Int32.ofNat cs.length)) ∧ sn = [] ∧ Ar Z h d .byte (cs.map fun c => Value.int (b8 c))) := by
  refine Ct.intro (plainFor_of_name pn_java_lang_StringUTF16) (ew hw) (ef_cmp5 a d cs) ?_
  intro x hl hn0 hkn hsf hh H0
  have hnar : x.nar = false := hn0.trans hnr
  have H0 : Hr x b_cmp5 Z EL1 0 0 h0 [d] 0 #[.val (.ref a), .val (.int (0 : Int32)), .val (.ref d), .val (.int (0 : Int32)), .val (.int (Int32.ofNat cs.length)), .unset, .unset] [] := H0
  have hlen : cs.length < 2147483648 := by simpa using Fa.len
  have H1 : Hr x b_cmp5 Z EL1 0 0 h0 [d] 1 #[.val (.ref a), .val (.int (0 : Int32)), .val (.ref d), .val (.int (0 : Int32)), .val (.int (Int32.ofNat cs.length)), .unset, .unset] [.int (0 : Int32)] := H0.iconst d_cmp5_0
  have H2 : Hr x b_cmp5 Z EL1 0 0 h0 [d] 3 #[.val (.ref a), .val (.int (0 : Int32)), .val (.ref d), .val (.int (0 : Int32)), .val (.int (Int32.ofNat cs.length)), .val (.int (0 : Int32)), .unset] [] := H1.istore d_cmp5_1
  have loop : ∀ (k i : Nat) (h : Heap) (o : Slot), i + k = cs.length → (o = .unset ∨ ∃ w, o = .val w ∧ w.category = 1) → Ar Z h a .char (cs.map Value.int) → Ar Z h d .byte ((cs.take i).map (fun c => Value.int (b8 c)) ++ List.replicate k (.int 0)) → Hr x b_cmp5 Z EL1 0 0 h [d] 3 #[.val (.ref a), .val (.int (Int32.ofNat i)), .val (.ref d), .val (.int (Int32.ofNat i)), .val (.int (Int32.ofNat cs.length)), .val (.int (Int32.ofNat i)), o] [] → Ends x b_cmp5 Z EL1 (fun v h sn => v = some (.int (Int32.ofNat cs.length)) ∧ sn = [] ∧ Ar Z h d .byte (cs.map fun c => Value.int (b8 c))) := by
    intro k
    induction k with
    | zero =>
      intro i h o hi ho Fa Fd H
      obtain rfl : i = cs.length := by omega
      have H3 : Hr x b_cmp5 Z EL1 0 0 h [d] 5 #[.val (.ref a), .val (.int (Int32.ofNat cs.length)), .val (.ref d), .val (.int (Int32.ofNat cs.length)), .val (.int (Int32.ofNat cs.length)), .val (.int (Int32.ofNat cs.length)), o] [.int (Int32.ofNat cs.length)] := H.iload d_cmp5_3
      have H4 : Hr x b_cmp5 Z EL1 0 0 h [d] 7 #[.val (.ref a), .val (.int (Int32.ofNat cs.length)), .val (.ref d), .val (.int (Int32.ofNat cs.length)), .val (.int (Int32.ofNat cs.length)), .val (.int (Int32.ofNat cs.length)), o] [.int (Int32.ofNat cs.length), .int (Int32.ofNat cs.length)] := H3.iload d_cmp5_5
      have H5 : Hr x b_cmp5 Z EL1 0 0 h [d] 44 #[.val (.ref a), .val (.int (Int32.ofNat cs.length)), .val (.ref d), .val (.int (Int32.ofNat cs.length)), .val (.int (Int32.ofNat cs.length)), .val (.int (Int32.ofNat cs.length)), o] [] := H4.icmpT d_cmp5_7 (XT.ii_ge_t (by simp))
      have H6 : Hr x b_cmp5 Z EL1 0 0 h [d] 46 #[.val (.ref a), .val (.int (Int32.ofNat cs.length)), .val (.ref d), .val (.int (Int32.ofNat cs.length)), .val (.int (Int32.ofNat cs.length)), .val (.int (Int32.ofNat cs.length)), o] [.int (Int32.ofNat cs.length)] := H5.iload d_cmp5_44
      exact H6.finI d_cmp5_46 ⟨rfl, rfl, by simpa using Fd⟩ sub0
    | succ k ih =>
      intro i h o hi ho Fa Fd H
      have hi1 : i < cs.length := by omega
      have hlt : Int32.ofNat i < Int32.ofNat cs.length := by rw [Int32.lt_iff_toInt_lt, toInt_of rfl (by omega), toInt_of rfl (by omega)]; omega
      obtain ⟨hc0, hc1⟩ := hcs cs[i] (List.getElem_mem hi1)
      have H3 : Hr x b_cmp5 Z EL1 0 0 h [d] 5 #[.val (.ref a), .val (.int (Int32.ofNat i)), .val (.ref d), .val (.int (Int32.ofNat i)), .val (.int (Int32.ofNat cs.length)), .val (.int (Int32.ofNat i)), o] [.int (Int32.ofNat i)] := H.iload d_cmp5_3
      have H4 : Hr x b_cmp5 Z EL1 0 0 h [d] 7 #[.val (.ref a), .val (.int (Int32.ofNat i)), .val (.ref d), .val (.int (Int32.ofNat i)), .val (.int (Int32.ofNat cs.length)), .val (.int (Int32.ofNat i)), o] [.int (Int32.ofNat cs.length), .int (Int32.ofNat i)] := H3.iload d_cmp5_5
      have H5 : Hr x b_cmp5 Z EL1 0 0 h [d] 10 #[.val (.ref a), .val (.int (Int32.ofNat i)), .val (.ref d), .val (.int (Int32.ofNat i)), .val (.int (Int32.ofNat cs.length)), .val (.int (Int32.ofNat i)), o] [] := H4.icmpF d_cmp5_7 (XT.ii_ge_f hlt)
      have H6 : Hr x b_cmp5 Z EL1 0 0 h [d] 11 #[.val (.ref a), .val (.int (Int32.ofNat i)), .val (.ref d), .val (.int (Int32.ofNat i)), .val (.int (Int32.ofNat cs.length)), .val (.int (Int32.ofNat i)), o] [.ref a] := H5.aloadN d_cmp5_10
      have H7 : Hr x b_cmp5 Z EL1 0 0 h [d] 12 #[.val (.ref a), .val (.int (Int32.ofNat i)), .val (.ref d), .val (.int (Int32.ofNat i)), .val (.int (Int32.ofNat cs.length)), .val (.int (Int32.ofNat i)), o] [.int (Int32.ofNat i), .ref a] := H6.iloadN d_cmp5_11
      have H8 : Hr x b_cmp5 Z EL1 0 0 h [d] 13 #[.val (.ref a), .val (.int (Int32.ofNat i)), .val (.ref d), .val (.int (Int32.ofNat i)), .val (.int (Int32.ofNat cs.length)), .val (.int (Int32.ofNat i)), o] [.int (cs[i])] := H7.caload Fa d_cmp5_12 (i := i) rfl (by simp [hi1])
      have H9 : Hr x b_cmp5 Z EL1 0 0 h [d] 15 #[.val (.ref a), .val (.int (Int32.ofNat i)), .val (.ref d), .val (.int (Int32.ofNat i)), .val (.int (Int32.ofNat cs.length)), .val (.int (Int32.ofNat i)), .val (.int (cs[i]))] [] := H8.istore d_cmp5_13 (hl := XS.store1 (o := o) rfl ho rfl)
      have H10 : Hr x b_cmp5 Z EL1 0 0 h [d] 17 #[.val (.ref a), .val (.int (Int32.ofNat i)), .val (.ref d), .val (.int (Int32.ofNat i)), .val (.int (Int32.ofNat cs.length)), .val (.int (Int32.ofNat i)), .val (.int (cs[i]))] [.int (cs[i])] := H9.iload d_cmp5_15
      have H11 : Hr x b_cmp5 Z EL1 0 0 h [d] 20 #[.val (.ref a), .val (.int (Int32.ofNat i)), .val (.ref d), .val (.int (Int32.ofNat i)), .val (.int (Int32.ofNat cs.length)), .val (.int (Int32.ofNat i)), .val (.int (cs[i]))] [.int (255 : Int32), .int (cs[i])] := H10.sipush d_cmp5_17
      have H12 : Hr x b_cmp5 Z EL1 0 0 h [d] 26 #[.val (.ref a), .val (.int (Int32.ofNat i)), .val (.ref d), .val (.int (Int32.ofNat i)), .val (.int (Int32.ofNat cs.length)), .val (.int (Int32.ofNat i)), .val (.int (cs[i]))] [] := H11.icmpT d_cmp5_20 (XT.ii_le_t hc1)
      have H13 : Hr x b_cmp5 Z EL1 0 0 h [d] 27 #[.val (.ref a), .val (.int (Int32.ofNat i)), .val (.ref d), .val (.int (Int32.ofNat i)), .val (.int (Int32.ofNat cs.length)), .val (.int (Int32.ofNat i)), .val (.int (cs[i]))] [.ref d] := H12.aloadN d_cmp5_26
      have H14 : Hr x b_cmp5 Z EL1 0 0 h [d] 28 #[.val (.ref a), .val (.int (Int32.ofNat i)), .val (.ref d), .val (.int (Int32.ofNat i)), .val (.int (Int32.ofNat cs.length)), .val (.int (Int32.ofNat i)), .val (.int (cs[i]))] [.int (Int32.ofNat i), .ref d] := H13.iloadN d_cmp5_27
      have H15 : Hr x b_cmp5 Z EL1 0 0 h [d] 30 #[.val (.ref a), .val (.int (Int32.ofNat i)), .val (.ref d), .val (.int (Int32.ofNat i)), .val (.int (Int32.ofNat cs.length)), .val (.int (Int32.ofNat i)), .val (.int (cs[i]))] [.int (cs[i]), .int (Int32.ofNat i), .ref d] := H14.iload d_cmp5_28
      have H16 : Hr x b_cmp5 Z EL1 0 0 h [d] 31 #[.val (.ref a), .val (.int (Int32.ofNat i)), .val (.ref d), .val (.int (Int32.ofNat i)), .val (.int (Int32.ofNat cs.length)), .val (.int (Int32.ofNat i)), .val (.int (cs[i]))] [.int (b8 cs[i]), .int (Int32.ofNat i), .ref d] := H15.i2b d_cmp5_30
      obtain ⟨h', Wd, H17⟩ := H16.bastore (List.mem_singleton.mpr rfl) Fd d_cmp5_31 (i := i) rfl (by simp; omega) (hw := (b8_b8 _))
      have H17 : Hr x b_cmp5 Z EL1 0 0 h' [d] 32 #[.val (.ref a), .val (.int (Int32.ofNat i)), .val (.ref d), .val (.int (Int32.ofNat i)), .val (.int (Int32.ofNat cs.length)), .val (.int (Int32.ofNat i)), .val (.int (cs[i]))] [] := H17
      have H18 : Hr x b_cmp5 Z EL1 0 0 h' [d] 35 #[.val (.ref a), .val (.int (Int32.ofNat (i + 1))), .val (.ref d), .val (.int (Int32.ofNat i)), .val (.int (Int32.ofNat cs.length)), .val (.int (Int32.ofNat i)), .val (.int (cs[i]))] [] := H17.iinc d_cmp5_32 (v := (Int32.ofNat (i + 1))) (hv := (inc_ofNat i).symm)
      have H19 : Hr x b_cmp5 Z EL1 0 0 h' [d] 38 #[.val (.ref a), .val (.int (Int32.ofNat (i + 1))), .val (.ref d), .val (.int (Int32.ofNat (i + 1))), .val (.int (Int32.ofNat cs.length)), .val (.int (Int32.ofNat i)), .val (.int (cs[i]))] [] := H18.iinc d_cmp5_35 (v := (Int32.ofNat (i + 1))) (hv := (inc_ofNat i).symm)
      have H20 : Hr x b_cmp5 Z EL1 0 0 h' [d] 41 #[.val (.ref a), .val (.int (Int32.ofNat (i + 1))), .val (.ref d), .val (.int (Int32.ofNat (i + 1))), .val (.int (Int32.ofNat cs.length)), .val (.int (Int32.ofNat (i + 1))), .val (.int (cs[i]))] [] := H19.iinc d_cmp5_38 (v := (Int32.ofNat (i + 1))) (hv := (inc_ofNat i).symm)
      have H21 : Hr x b_cmp5 Z EL1 0 0 h' [d] 3 #[.val (.ref a), .val (.int (Int32.ofNat (i + 1))), .val (.ref d), .val (.int (Int32.ofNat (i + 1))), .val (.int (Int32.ofNat cs.length)), .val (.int (Int32.ofNat (i + 1))), .val (.int (cs[i]))] [] := H20.goto d_cmp5_41
      refine ih (i + 1) _ _ (by omega) (Or.inr ⟨_, rfl, rfl⟩) (Fa.other Wd hne) ?_ H21
      have := Fd.set Wd; rw [set_next (f := fun c => Value.int (b8 c)) hi1] at this; exact this
  exact loop cs.length 0 h0 .unset (by omega) (Or.inl rfl) Fa (by simpa using Fd) H2
def b_cmp3 (n : Nat) : Bx := (({ frames := 1, cells := 1, slots := n, locals := 18 } : Room), (⟨"java/lang/StringUTF16", "compress", "([CII)[B"⟩ : MethodName), jdk_52_method_16_code, 6, (Option.some (Jvm.ClassFile.FieldType.array Jvm.ClassFile.FieldType.byte)))
theorem ef_cmp3 (a : Addr) (cs : List Int32) (mI : MethodId) : entryFrame mI #[.ref a, .int (0 : Int32), .int (Int32.ofNat cs.length)] 6 = mkF mI 0 #[.val (.ref a), .val (.int (0 : Int32)), .val (.int (Int32.ofNat cs.length)), .unset, .unset, .unset] [] := by first | (simp [entryFrame, mkF, argsToLocals, Value.category]; done) | rfl
theorem pd_cmp3 : parseMethodDescriptor "([CII)[B" = some ⟨[(.array .char), .int, .int], some (.array .byte)⟩ := by decide +kernel
set_option maxRecDepth 65536 in
set_option maxHeartbeats 4000000 in
theorem ct_cmp3 {a0 : Array Value} {Z : State} (hw : ∀ d ∈ tables_1, d.before a0 Z = true) (l : Launch) (nar kn : Bool) (hnr : nar = false) (h0 : Heap) (a : Addr) (cs : List Int32) (Fa : Ar Z h0 a .char (cs.map Value.int)) (hcap : cs.length ≤ 4000) (hcs : ∀ c ∈ cs, ¬ c < 0 ∧ ¬ 255 < c) :
    Ct l Z EL1 (⟨"java/lang/StringUTF16", "compress", "([CII)[B"⟩ : MethodName) jdk_52_method_16_code 6 (Option.some (Jvm.ClassFile.FieldType.array Jvm.ClassFile.FieldType.byte)) ({ frames := 1, cells := 1, slots := cs.length, locals := 18 } : Room) #[.ref a, .int (0 : Int32), .int (Int32.ofNat cs.length)] h0 [] nar kn (fun v h sn => ∃ t, v = some (.ref t) ∧ h0.size ≤ t ∧ sn = [t] ∧ Ar Z h t .byte (cs.map fun c => Value.int (b8 c))) := by
  refine Ct.intro (plainFor_of_name pn_java_lang_StringUTF16) (ew hw) (ef_cmp3 a cs) ?_
  intro x hl hn0 hkn hsf hh H0
  have hnar : x.nar = false := hn0.trans hnr
  have H0 : Hr x (b_cmp3 cs.length) Z EL1 0 0 h0 [] 0 #[.val (.ref a), .val (.int (0 : Int32)), .val (.int (Int32.ofNat cs.length)), .unset, .unset, .unset] [] := H0
  have hclamp : (Int32.ofNat cs.length).toNatClampNeg = cs.length := clamp_of rfl (by omega)
  have hnn : ¬ Int32.ofNat cs.length < 0 := by rw [Int32.lt_iff_toInt_lt, toInt_of rfl (by omega)]; simp
  have H1 : Hr x (b_cmp3 cs.length) Z EL1 0 0 h0 [] 1 #[.val (.ref a), .val (.int (0 : Int32)), .val (.int (Int32.ofNat cs.length)), .unset, .unset, .unset] [.int (Int32.ofNat cs.length)] := H0.iloadN d_cmp3_0
  obtain ⟨h1, E1, Fd, H2⟩ := H1.newarray (aty := .byte) (cap := cs.length) (w16 hw) d_cmp3_1 hnn (Nat.le_of_eq hclamp) (by omega) (by first | (simp [b_cmp3, Bx.R]; done) | (simp [b_cmp3, Bx.R]; omega)) (by first | (simp [b_cmp3, Bx.R]; done) | (simp [b_cmp3, Bx.R]; omega))
  obtain ⟨d, g_d⟩ : ∃ z, z = h0.size := ⟨_, rfl⟩
  rw [← g_d] at Fd H2
  have Fd : Ar Z h1 d .byte (List.replicate cs.length (.int 0)) := (by have := Fd; rw [hclamp] at this; exact this)
  have H2 : Hr x (b_cmp3 cs.length) Z EL1 1 (0 + cs.length) h1 [d] 3 #[.val (.ref a), .val (.int (0 : Int32)), .val (.int (Int32.ofNat cs.length)), .unset, .unset, .unset] [.ref d] := H2
  have H3 : Hr x (b_cmp3 cs.length) Z EL1 1 (0 + cs.length) h1 [d] 4 #[.val (.ref a), .val (.int (0 : Int32)), .val (.int (Int32.ofNat cs.length)), .val (.ref d), .unset, .unset] [] := H2.astoreN d_cmp3_3
  have H4 : Hr x (b_cmp3 cs.length) Z EL1 1 (0 + cs.length) h1 [d] 5 #[.val (.ref a), .val (.int (0 : Int32)), .val (.int (Int32.ofNat cs.length)), .val (.ref d), .unset, .unset] [.ref a] := H3.aloadN d_cmp3_4
  have H5 : Hr x (b_cmp3 cs.length) Z EL1 1 (0 + cs.length) h1 [d] 6 #[.val (.ref a), .val (.int (0 : Int32)), .val (.int (Int32.ofNat cs.length)), .val (.ref d), .unset, .unset] [.int (0 : Int32), .ref a] := H4.iloadN d_cmp3_5
  have H6 : Hr x (b_cmp3 cs.length) Z EL1 1 (0 + cs.length) h1 [d] 7 #[.val (.ref a), .val (.int (0 : Int32)), .val (.int (Int32.ofNat cs.length)), .val (.ref d), .unset, .unset] [.ref d, .int (0 : Int32), .ref a] := H5.aloadN d_cmp3_6
  have H7 : Hr x (b_cmp3 cs.length) Z EL1 1 (0 + cs.length) h1 [d] 8 #[.val (.ref a), .val (.int (0 : Int32)), .val (.int (Int32.ofNat cs.length)), .val (.ref d), .unset, .unset] [.int (0 : Int32), .ref d, .int (0 : Int32), .ref a] := H6.iconst d_cmp3_7
  have H8 : Hr x (b_cmp3 cs.length) Z EL1 1 (0 + cs.length) h1 [d] 9 #[.val (.ref a), .val (.int (0 : Int32)), .val (.int (Int32.ofNat cs.length)), .val (.ref d), .unset, .unset] [.int (Int32.ofNat cs.length), .int (0 : Int32), .ref d, .int (0 : Int32), .ref a] := H7.iloadN d_cmp3_8
  obtain ⟨_, h2, _, ⟨rfl, rfl, Fd2⟩, K2, H9⟩ := H8.callS (argsL := [.ref a, .int (0 : Int32), .ref d, .int (0 : Int32), .int (Int32.ofNat cs.length)]) (rest := []) (Wr := 0) (ct_cmp5 hw x.l x.nar x.kn hnar h1 a d cs (Fa.ext E1) Fd (neN (by have := Fa.lt; omega)) hcs) (sub1 (List.mem_cons_self ..)) (w28 hw) (w29 hw) (w26 hw) (w30 hw) d_cmp3_9 pd_cmp5 rfl (hf := by first | (simp [b_cmp3, Bx.R]; done) | (simp [b_cmp3, Bx.R]; omega)) (hl := by first | (simp [b_cmp3, Bx.R]; done) | (simp [b_cmp3, Bx.R]; omega)) (hc := by first | (simp [b_cmp3, Bx.R]; done) | (simp [b_cmp3, Bx.R]; omega)) (hs := by first | (simp [b_cmp3, Bx.R]; done) | (simp [b_cmp3, Bx.R]; omega))
  have H9 : Hr x (b_cmp3 cs.length) Z EL1 1 (0 + cs.length + 0) h2 [d] 12 #[.val (.ref a), .val (.int (0 : Int32)), .val (.int (Int32.ofNat cs.length)), .val (.ref d), .unset, .unset] [.int (Int32.ofNat cs.length)] := H9
  have H10 : Hr x (b_cmp3 cs.length) Z EL1 1 (0 + cs.length + 0) h2 [d] 14 #[.val (.ref a), .val (.int (0 : Int32)), .val (.int (Int32.ofNat cs.length)), .val (.ref d), .val (.int (Int32.ofNat cs.length)), .unset] [] := H9.istore d_cmp3_12
  have H11 : Hr x (b_cmp3 cs.length) Z EL1 1 (0 + cs.length + 0) h2 [d] 16 #[.val (.ref a), .val (.int (0 : Int32)), .val (.int (Int32.ofNat cs.length)), .val (.ref d), .val (.int (Int32.ofNat cs.length)), .unset] [.int (Int32.ofNat cs.length)] := H10.iload d_cmp3_14
  have H12 : Hr x (b_cmp3 cs.length) Z EL1 1 (0 + cs.length + 0) h2 [d] 17 #[.val (.ref a), .val (.int (0 : Int32)), .val (.int (Int32.ofNat cs.length)), .val (.ref d), .val (.int (Int32.ofNat cs.length)), .unset] [.int (Int32.ofNat cs.length), .int (Int32.ofNat cs.length)] := H11.iloadN d_cmp3_16
  have H13 : Hr x (b_cmp3 cs.length) Z EL1 1 (0 + cs.length + 0) h2 [d] 57 #[.val (.ref a), .val (.int (0 : Int32)), .val (.int (Int32.ofNat cs.length)), .val (.ref d), .val (.int (Int32.ofNat cs.length)), .unset] [] := H12.icmpT d_cmp3_17 (XT.ii_eq_t rfl)
  have H14 : Hr x (b_cmp3 cs.length) Z EL1 1 (0 + cs.length + 0) h2 [d] 58 #[.val (.ref a), .val (.int (0 : Int32)), .val (.int (Int32.ofNat cs.length)), .val (.ref d), .val (.int (Int32.ofNat cs.length)), .unset] [.ref d] := H13.aloadN d_cmp3_57
  exact H14.finA d_cmp3_58 ⟨d, rfl, by omega, rfl, Fd2⟩ (sub1 (List.mem_cons_self ..)) (hK := by first | (simp [b_cmp3, Bx.R]; done) | (simp [b_cmp3, Bx.R]; omega)) (hS := by first | (simp [b_cmp3, Bx.R]; done) | (simp [b_cmp3, Bx.R]; omega))
def b_cfal : Bx := (({ frames := 0, cells := 0, slots := 0, locals := 0 } : Room), (⟨"java/lang/StringUTF16", "coderFromArrayLen", "([BI)B"⟩ : MethodName), jdk_52_method_15_code, 2, (Option.some Jvm.ClassFile.FieldType.byte))
theorem ef_cfal (d : Addr) (n : Nat) (mI : MethodId) : entryFrame mI #[.ref d, .int (Int32.ofNat n)] 2 = mkF mI 0 #[.val (.ref d), .val (.int (Int32.ofNat n))] [] := by first | (simp [entryFrame, mkF, argsToLocals, Value.category]; done) | rfl
theorem pd_cfal : parseMethodDescriptor "([BI)B" = some ⟨[(.array .byte), .int], some .byte⟩ := by decide +kernel
set_option maxRecDepth 65536 in
set_option maxHeartbeats 4000000 in
theorem ct_cfal {a0 : Array Value} {Z : State} (hw : ∀ d ∈ tables_1, d.before a0 Z = true) (l : Launch) (nar kn : Bool) (hnr : nar = false) (h0 : Heap) (d : Addr) (vs : List Value) (n : Nat) (hn : vs.length = n) (Fd : Ar Z h0 d .byte vs) :
    Ct l Z EL1 (⟨"java/lang/StringUTF16", "coderFromArrayLen", "([BI)B"⟩ : MethodName) jdk_52_method_15_code 2 (Option.some Jvm.ClassFile.FieldType.byte) ({ frames := 0, cells := 0, slots := 0, locals := 0 } : Room) #[.ref d, .int (Int32.ofNat n)] h0 [] nar kn (fun v h sn => v = some (.int 0) ∧ sn = [] ∧ h = h0) := by
  refine Ct.intro (plainFor_of_name pn_java_lang_StringUTF16) (ew hw) (ef_cfal d n) ?_
  intro x hl hn0 hkn hsf hh H0
  have hnar : x.nar = false := hn0.trans hnr
  have H0 : Hr x b_cfal Z EL1 0 0 h0 [] 0 #[.val (.ref d), .val (.int (Int32.ofNat n))] [] := H0
  have H1 : Hr x b_cfal Z EL1 0 0 h0 [] 1 #[.val (.ref d), .val (.int (Int32.ofNat n))] [.int (Int32.ofNat n)] := H0.iloadN d_cfal_0
  have H2 : Hr x b_cfal Z EL1 0 0 h0 [] 2 #[.val (.ref d), .val (.int (Int32.ofNat n))] [.ref d, .int (Int32.ofNat n)] := H1.aloadN d_cfal_1
  have H3 : Hr x b_cfal Z EL1 0 0 h0 [] 3 #[.val (.ref d), .val (.int (Int32.ofNat n))] [.int (Int32.ofNat n), .int (Int32.ofNat n)] := H2.arraylength Fd d_cfal_2 (hn := (by rw [hn]))
  have H4 : Hr x b_cfal Z EL1 0 0 h0 [] 4 #[.val (.ref d), .val (.int (Int32.ofNat n))] [.int (0 : Int32)] := H3.isub d_cfal_3 (hv := (by simp))
  have H5 : Hr x b_cfal Z EL1 0 0 h0 [] 6 #[.val (.ref d), .val (.int (Int32.ofNat n))] [.int (31 : Int32), .int (0 : Int32)] := H4.bipush d_cfal_4
  have H6 : Hr x b_cfal Z EL1 0 0 h0 [] 7 #[.val (.ref d), .val (.int (Int32.ofNat n))] [.int (0 : Int32)] := H5.iushr d_cfal_6 (hv := (by decide))
  have H7 : Hr x b_cfal Z EL1 0 0 h0 [] 8 #[.val (.ref d), .val (.int (Int32.ofNat n))] [.int (0 : Int32)] := H6.i2b d_cfal_7 (hv := (by decide))
  exact H7.finZ d_cfal_8 (t := .byte) (by first | rfl | decide) ⟨rfl, rfl, rfl⟩ sub0
def b_sini4 (n : Nat) : Bx := (({ frames := 2, cells := 4, slots := 8 + n, locals := 35 } : Room), (⟨"java/lang/String", "<init>", "([CIILjava/lang/Void;)V"⟩ : MethodName), jdk_42_method_149_code, 6, (Option.none : Option Jvm.ClassFile.FieldType))
theorem ef_sini4 (s a : Addr) (cs : List Int32) (mI : MethodId) : entryFrame mI #[.ref s, .ref a, .int (0 : Int32), .int (Int32.ofNat cs.length), .null] 6 = mkF mI 0 #[.val (.ref s), .val (.ref a), .val (.int (0 : Int32)), .val (.int (Int32.ofNat cs.length)), .val (.null), .unset] [] := by first | (simp [entryFrame, mkF, argsToLocals, Value.category]; done) | rfl
theorem pn_java_lang_String : plainName "java/lang/String" = true := by first | (simp [plainName, overriddenIn]; done) | decide +kernel
theorem pd_sini4 : parseMethodDescriptor "([CIILjava/lang/Void;)V" = some ⟨[(.array .char), .int, .int, (.object "java/lang/Void")], none⟩ := by decide +kernel
set_option maxRecDepth 65536 in
set_option maxHeartbeats 4000000 in
theorem ct_sini4 {a0 : Array Value} {Z : State} (hw : ∀ d ∈ tables_1, d.before a0 Z = true) (l : Launch) (nar kn : Bool) (hnr : nar = false) (h0 : Heap) (s a : Addr) (cs : List Int32) (Es : Exa Z h0 s "java/lang/String") (Fc : Fld Z h0 s "java/lang/String" "coder" "B" (.int 0)) (Fv : Fld Z h0 s "java/lang/String" "value" "[B" .null) (Fa : Ar Z h0 a .char (cs.map Value.int)) (hcap : cs.length ≤ 4000) (hcs : ∀ c ∈ cs, ¬ c < 0 ∧ ¬ 255 < c) (cz : Int32) (O : Sta Z Z.heap "java/lang/String" "COMPACT_STRINGS" "Z" (.int cz)) (hcz : ¬ cz = 0) :
    Ct l Z EL1 (⟨"java/lang/String", "<init>", "([CIILjava/lang/Void;)V"⟩ : MethodName) jdk_42_method_149_code 6 (Option.none : Option Jvm.ClassFile.FieldType) ({ frames := 2, cells := 4, slots := 8 + cs.length, locals := 35 } : Room) #[.ref s, .ref a, .int (0 : Int32), .int (Int32.ofNat cs.length), .null] h0 [s] nar kn (fun v h sn => v = none ∧ sn = [] ∧ ∃ t, Str Z h s t (cs.map b8)) := by
  refine Ct.intro (plainFor_of_name pn_java_lang_String) (ew hw) (ef_sini4 s a cs) ?_
  intro x hl hn0 hkn hsf hh H0
  have hnar : x.nar = false := hn0.trans hnr
  have H0 : Hr x (b_sini4 cs.length) Z EL1 0 0 h0 [s] 0 #[.val (.ref s), .val (.ref a), .val (.int (0 : Int32)), .val (.int (Int32.ofNat cs.length)), .val (.null), .unset] [] := H0
  have H1 : Hr x (b_sini4 cs.length) Z EL1 0 0 h0 [s] 1 #[.val (.ref s), .val (.ref a), .val (.int (0 : Int32)), .val (.int (Int32.ofNat cs.length)), .val (.null), .unset] [.ref s] := H0.aloadN d_sini4_0
  have H2 : Hr x (b_sini4 cs.length) Z EL1 0 0 h0 [s] 4 #[.val (.ref s), .val (.ref a), .val (.int (0 : Int32)), .val (.int (Int32.ofNat cs.length)), .val (.null), .unset] [] := H1.initO (Wr := 0) (w12 hw) (w13 hw) (w14 hw) d_sini4_1 (hf := by first | (simp [b_sini4, Bx.R]; done) | (simp [b_sini4, Bx.R]; omega)) (hl := by first | (simp [b_sini4, Bx.R]; done) | (simp [b_sini4, Bx.R]; omega))
  have H3 : Hr x (b_sini4 cs.length) Z EL1 0 0 h0 [s] 5 #[.val (.ref s), .val (.ref a), .val (.int (0 : Int32)), .val (.int (Int32.ofNat cs.length)), .val (.null), .unset] [.int (Int32.ofNat cs.length)] := H2.iloadN d_sini4_4
  by_cases hz : cs.length = 0
  · obtain rfl : cs = [] := List.length_eq_zero_iff.mp hz
    have H4 : Hr x (b_sini4 ([] : List Int32).length) Z EL1 0 0 h0 [s] 8 #[.val (.ref s), .val (.ref a), .val (.int (0 : Int32)), .val (.int (Int32.ofNat ([] : List Int32).length)), .val (.null), .unset] [] := H3.ifF d_sini4_5 (XT.i0_ne_f rfl)
    have H5 : Hr x (b_sini4 ([] : List Int32).length) Z EL1 0 0 h0 [s] 9 #[.val (.ref s), .val (.ref a), .val (.int (0 : Int32)), .val (.int (Int32.ofNat ([] : List Int32).length)), .val (.null), .unset] [.ref s] := H4.aloadN d_sini4_8
    obtain ⟨la, lt, h1, E1, L1, n1, H6⟩ := H5.ldcS (n := 0) (bs := []) (z := 0) (w15 hw) (wStr hw) (ew hw) (by decide) (by decide) (by decide) (by decide) d_sini4_9 (by decide) (by decide) hnar (by first | (simp [b_sini4, Bx.R]; done) | (simp [b_sini4, Bx.R]; omega)) (by first | (simp [b_sini4, Bx.R]; done) | (simp [b_sini4, Bx.R]; omega))
    have H6 : Hr x (b_sini4 ([] : List Int32).length) Z EL1 2 4 h1 [s] 11 #[.val (.ref s), .val (.ref a), .val (.int (0 : Int32)), .val (.int (Int32.ofNat ([] : List Int32).length)), .val (.null), .unset] [.ref la, .ref s] := H6
    have H7 : Hr x (b_sini4 ([] : List Int32).length) Z EL1 2 4 h1 [s] 14 #[.val (.ref s), .val (.ref a), .val (.int (0 : Int32)), .val (.int (Int32.ofNat ([] : List Int32).length)), .val (.null), .unset] [.ref lt, .ref s] := H6.getF (w21 hw) L1.2.2.1 d_sini4_11
    obtain ⟨h2, W2, H8⟩ := H7.putF (List.mem_singleton.mpr rfl) (w21 hw) (Fv.ext E1) (Es.ext E1) (Or.inr ⟨(w17 hw), rfl, rfl⟩) (w3 hw) d_sini4_14 (ty := (.array .byte))
    have H8 : Hr x (b_sini4 ([] : List Int32).length) Z EL1 2 4 h2 [s] 17 #[.val (.ref s), .val (.ref a), .val (.int (0 : Int32)), .val (.int (Int32.ofNat ([] : List Int32).length)), .val (.null), .unset] [] := H8
    have q1 := n1 s (List.mem_singleton.mpr rfl)
    have L2 := L1.other W2 (Ne.symm q1.1) (Ne.symm q1.2)
    have H9 : Hr x (b_sini4 ([] : List Int32).length) Z EL1 2 4 h2 [s] 18 #[.val (.ref s), .val (.ref a), .val (.int (0 : Int32)), .val (.int (Int32.ofNat ([] : List Int32).length)), .val (.null), .unset] [.ref s] := H8.aloadN d_sini4_17
    obtain ⟨lb, lu, h3, E3, L3, n3, H10⟩ := H9.ldcS (n := 0) (bs := []) (z := 0) (w15 hw) (wStr hw) (ew hw) (by decide) (by decide) (by decide) (by decide) d_sini4_18 (by decide) (by decide) hnar (by first | (simp [b_sini4, Bx.R]; done) | (simp [b_sini4, Bx.R]; omega)) (by first | (simp [b_sini4, Bx.R]; done) | (simp [b_sini4, Bx.R]; omega))
    have H10 : Hr x (b_sini4 ([] : List Int32).length) Z EL1 4 8 h3 [s] 20 #[.val (.ref s), .val (.ref a), .val (.int (0 : Int32)), .val (.int (Int32.ofNat ([] : List Int32).length)), .val (.null), .unset] [.ref lb, .ref s] := H10
    have H11 : Hr x (b_sini4 ([] : List Int32).length) Z EL1 4 8 h3 [s] 23 #[.val (.ref s), .val (.ref a), .val (.int (0 : Int32)), .val (.int (Int32.ofNat ([] : List Int32).length)), .val (.null), .unset] [.int (0 : Int32), .ref s] := H10.getF (w22 hw) L3.2.1 d_sini4_20
    have slne := slot_ne (a0 := a0) (C := "java/lang/String") (n := "value") (n' := "coder") (Or.inr (w17 hw)) (Or.inr (w18 hw)) (by decide) (t := .array .byte) (t' := .byte) (by decide) (by decide)
    have Fv2 := Fld.same W2 (Fv.ext E1)
    have Fc2 := Fld.other W2 (Fc.ext E1) (Or.inr (Ne.symm slne))
    obtain ⟨h4, W4, H12⟩ := H11.putF (List.mem_singleton.mpr rfl) (w22 hw) (Fc2.ext E3) ((Es.ext E1).wr W2 |>.ext E3) (Or.inr ⟨(w18 hw), rfl, rfl⟩) (w3 hw) d_sini4_23 (ty := .byte)
    have H12 : Hr x (b_sini4 ([] : List Int32).length) Z EL1 4 8 h4 [s] 26 #[.val (.ref s), .val (.ref a), .val (.int (0 : Int32)), .val (.int (Int32.ofNat ([] : List Int32).length)), .val (.null), .unset] [] := H12
    have q3 := n3 s (List.mem_singleton.mpr rfl)
    have q4 : lt ≠ s := Ne.symm q1.2
    refine H12.finN d_sini4_26 rfl (by first | (simp [b_sini4, Bx.R]; done) | (simp [b_sini4, Bx.R]; omega)) (by first | (simp [b_sini4, Bx.R]; done) | (simp [b_sini4, Bx.R]; omega)) sub0 ⟨rfl, rfl, lt, ((Es.ext E1).wr W2 |>.ext E3).wr W4, Fld.same W4 (Fc2.ext E3), (Fv2.ext E3).other W4 (Or.inr slne), ((L2.2.2.2).ext E3).other W4 q4⟩
  · have hn0 : ¬ Int32.ofNat cs.length = 0 := fun q => hz (by have := congrArg Int32.toInt q; rw [toInt_of rfl (by omega)] at this; simpa using this)
    have H13 : Hr x (b_sini4 cs.length) Z EL1 0 0 h0 [s] 27 #[.val (.ref s), .val (.ref a), .val (.int (0 : Int32)), .val (.int (Int32.ofNat cs.length)), .val (.null), .unset] [] := H3.ifT d_sini4_5 (XT.i0_ne_t hn0)
    have H14 : Hr x (b_sini4 cs.length) Z EL1 0 0 h0 [s] 30 #[.val (.ref s), .val (.ref a), .val (.int (0 : Int32)), .val (.int (Int32.ofNat cs.length)), .val (.null), .unset] [.int cz] := H13.getS (w23 hw) (O.ext H13.old) d_sini4_27
    have H15 : Hr x (b_sini4 cs.length) Z EL1 0 0 h0 [s] 33 #[.val (.ref s), .val (.ref a), .val (.int (0 : Int32)), .val (.int (Int32.ofNat cs.length)), .val (.null), .unset] [] := H14.ifF d_sini4_30 (XT.i0_eq_f hcz)
    have H16 : Hr x (b_sini4 cs.length) Z EL1 0 0 h0 [s] 34 #[.val (.ref s), .val (.ref a), .val (.int (0 : Int32)), .val (.int (Int32.ofNat cs.length)), .val (.null), .unset] [.ref a] := H15.aloadN d_sini4_33
    have H17 : Hr x (b_sini4 cs.length) Z EL1 0 0 h0 [s] 35 #[.val (.ref s), .val (.ref a), .val (.int (0 : Int32)), .val (.int (Int32.ofNat cs.length)), .val (.null), .unset] [.int (0 : Int32), .ref a] := H16.iloadN d_sini4_34
    have H18 : Hr x (b_sini4 cs.length) Z EL1 0 0 h0 [s] 36 #[.val (.ref s), .val (.ref a), .val (.int (0 : Int32)), .val (.int (Int32.ofNat cs.length)), .val (.null), .unset] [.int (Int32.ofNat cs.length), .int (0 : Int32), .ref a] := H17.iloadN d_sini4_35
    obtain ⟨_, h1, _, ⟨t, rfl, ht, rfl, Ft⟩, K1, H19⟩ := H18.callS (argsL := [.ref a, .int (0 : Int32), .int (Int32.ofNat cs.length)]) (rest := []) (Wr := 0) (ct_cmp3 hw x.l x.nar x.kn hnar h0 a cs Fa hcap hcs) sub0 (w24 hw) (w25 hw) (w26 hw) (w27 hw) d_sini4_36 pd_cmp3 rfl (hf := by first | (simp [b_sini4, Bx.R]; done) | (simp [b_sini4, Bx.R]; omega)) (hl := by first | (simp [b_sini4, Bx.R]; done) | (simp [b_sini4, Bx.R]; omega)) (hc := by first | (simp [b_sini4, Bx.R]; done) | (simp [b_sini4, Bx.R]; omega)) (hs := by first | (simp [b_sini4, Bx.R]; done) | (simp [b_sini4, Bx.R]; omega))
    have H19 : Hr x (b_sini4 cs.length) Z EL1 1 (0 + cs.length) h1 [t, s] 39 #[.val (.ref s), .val (.ref a), .val (.int (0 : Int32)), .val (.int (Int32.ofNat cs.length)), .val (.null), .unset] [.ref t] := H19
    have H20 : Hr x (b_sini4 cs.length) Z EL1 1 (0 + cs.length) h1 [t, s] 41 #[.val (.ref s), .val (.ref a), .val (.int (0 : Int32)), .val (.int (Int32.ofNat cs.length)), .val (.null), .val (.ref t)] [] := H19.astore d_sini4_39
    have H21 : Hr x (b_sini4 cs.length) Z EL1 1 (0 + cs.length) h1 [t, s] 42 #[.val (.ref s), .val (.ref a), .val (.int (0 : Int32)), .val (.int (Int32.ofNat cs.length)), .val (.null), .val (.ref t)] [.ref s] := H20.aloadN d_sini4_41
    have H22 : Hr x (b_sini4 cs.length) Z EL1 1 (0 + cs.length) h1 [t, s] 44 #[.val (.ref s), .val (.ref a), .val (.int (0 : Int32)), .val (.int (Int32.ofNat cs.length)), .val (.null), .val (.ref t)] [.ref t, .ref s] := H21.aload d_sini4_42
    have H23 : Hr x (b_sini4 cs.length) Z EL1 1 (0 + cs.length) h1 [t, s] 45 #[.val (.ref s), .val (.ref a), .val (.int (0 : Int32)), .val (.int (Int32.ofNat cs.length)), .val (.null), .val (.ref t)] [.int (Int32.ofNat cs.length), .ref t, .ref s] := H22.iloadN d_sini4_44
    obtain ⟨_, h2, _, ⟨rfl, rfl, e2⟩, K2, H24⟩ := H23.callS (argsL := [.ref t, .int (Int32.ofNat cs.length)]) (rest := [.ref s]) (Wr := 1) (ct_cfal hw x.l x.nar x.kn hnar h1 t (cs.map fun c => Value.int (b8 c)) cs.length (by simp) Ft) sub0 (w31 hw) (w32 hw) (w26 hw) (w33 hw) d_sini4_45 pd_cfal rfl (hf := by first | (simp [b_sini4, Bx.R]; done) | (simp [b_sini4, Bx.R]; omega)) (hl := by first | (simp [b_sini4, Bx.R]; done) | (simp [b_sini4, Bx.R]; omega)) (hc := by first | (simp [b_sini4, Bx.R]; done) | (simp [b_sini4, Bx.R]; omega)) (hs := by first | (simp [b_sini4, Bx.R]; done) | (simp [b_sini4, Bx.R]; omega))
    rw [e2] at H24
    have H24 : Hr x (b_sini4 cs.length) Z EL1 1 (0 + cs.length + 0) h1 [t, s] 48 #[.val (.ref s), .val (.ref a), .val (.int (0 : Int32)), .val (.int (Int32.ofNat cs.length)), .val (.null), .val (.ref t)] [.int (0 : Int32), .ref s] := H24
    have hlt := exa_lt Es
    have hst : @Ne Nat s t := by omega
    have slne := slot_ne (a0 := a0) (C := "java/lang/String") (n := "value") (n' := "coder") (Or.inr (w17 hw)) (Or.inr (w18 hw)) (by decide) (t := .array .byte) (t' := .byte) (by decide) (by decide)
    obtain ⟨h3, W3, H25⟩ := H24.putF (by simp) (w22 hw) (Fc.keep K1 nin0) (Es.keep K1) (Or.inr ⟨(w18 hw), rfl, rfl⟩) (w3 hw) d_sini4_48 (ty := .byte)
    have H25 : Hr x (b_sini4 cs.length) Z EL1 1 (0 + cs.length + 0) h3 [t, s] 51 #[.val (.ref s), .val (.ref a), .val (.int (0 : Int32)), .val (.int (Int32.ofNat cs.length)), .val (.null), .val (.ref t)] [] := H25
    have H26 : Hr x (b_sini4 cs.length) Z EL1 1 (0 + cs.length + 0) h3 [t, s] 52 #[.val (.ref s), .val (.ref a), .val (.int (0 : Int32)), .val (.int (Int32.ofNat cs.length)), .val (.null), .val (.ref t)] [.ref s] := H25.aloadN d_sini4_51
    have H27 : Hr x (b_sini4 cs.length) Z EL1 1 (0 + cs.length + 0) h3 [t, s] 54 #[.val (.ref s), .val (.ref a), .val (.int (0 : Int32)), .val (.int (Int32.ofNat cs.length)), .val (.null), .val (.ref t)] [.ref t, .ref s] := H26.aload d_sini4_52
    obtain ⟨h4, W4, H28⟩ := H27.putF (by simp) (w21 hw) ((Fv.keep K1 nin0).other W3 (Or.inr slne)) ((Es.keep K1).wr W3) (Or.inr ⟨(w17 hw), rfl, rfl⟩) (w3 hw) d_sini4_54 (ty := (.array .byte))
    have H28 : Hr x (b_sini4 cs.length) Z EL1 1 (0 + cs.length + 0) h4 [t, s] 57 #[.val (.ref s), .val (.ref a), .val (.int (0 : Int32)), .val (.int (Int32.ofNat cs.length)), .val (.null), .val (.ref t)] [] := H28
    refine H28.finN d_sini4_57 rfl (by first | (simp [b_sini4, Bx.R]; done) | (simp [b_sini4, Bx.R]; omega)) (by first | (simp [b_sini4, Bx.R]; done) | (simp [b_sini4, Bx.R]; omega)) sub0 ⟨rfl, rfl, t, ((Es.keep K1).wr W3).wr W4, (Fld.same W3 (Fc.keep K1 nin0)).other W4 (Or.inr (Ne.symm slne)), Fld.same W4 ((Fv.keep K1 nin0).other W3 (Or.inr slne)), ?_⟩
    have := (Ft.other W3 (Ne.symm hst)).other W4 (Ne.symm hst); simpa [List.map_map, Function.comp_def] using this
def b_sini1 (n : Nat) : Bx := (({ frames := 3, cells := 4, slots := 8 + n, locals := 52 } : Room), (⟨"java/lang/String", "<init>", "([C)V"⟩ : MethodName), jdk_42_method_3_code, 2, (Option.none : Option Jvm.ClassFile.FieldType))
theorem ef_sini1 (s a : Addr) (mI : MethodId) : entryFrame mI #[.ref s, .ref a] 2 = mkF mI 0 #[.val (.ref s), .val (.ref a)] [] := by first | (simp [entryFrame, mkF, argsToLocals, Value.category]; done) | rfl
theorem pd_sini1 : parseMethodDescriptor "([C)V" = some ⟨[(.array .char)], none⟩ := by decide +kernel
set_option maxRecDepth 65536 in
set_option maxHeartbeats 4000000 in
theorem ct_sini1 {a0 : Array Value} {Z : State} (hw : ∀ d ∈ tables_1, d.before a0 Z = true) (l : Launch) (nar kn : Bool) (hnr : nar = false) (h0 : Heap) (s a : Addr) (cs : List Int32) (Es : Exa Z h0 s "java/lang/String") (Fc : Fld Z h0 s "java/lang/String" "coder" "B" (.int 0)) (Fv : Fld Z h0 s "java/lang/String" "value" "[B" .null) (Fa : Ar Z h0 a .char (cs.map Value.int)) (hcap : cs.length ≤ 4000) (hcs : ∀ c ∈ cs, ¬ c < 0 ∧ ¬ 255 < c) (cz : Int32) (O : Sta Z Z.heap "java/lang/String" "COMPACT_STRINGS" "Z" (.int cz)) (hcz : ¬ cz = 0) :
    Ct l Z EL1 (⟨"java/lang/String", "<init>", "([C)V"⟩ : MethodName) jdk_42_method_3_code 2 (Option.none : Option Jvm.ClassFile.FieldType) ({ frames := 3, cells := 4, slots := 8 + cs.length, locals := 52 } : Room) #[.ref s, .ref a] h0 [s] nar kn (fun v h sn => v = none ∧ sn = [] ∧ ∃ t, Str Z h s t (cs.map b8)) := by
  refine Ct.intro (plainFor_of_name pn_java_lang_String) (ew hw) (ef_sini1 s a) ?_
  intro x hl hn0 hkn hsf hh H0
  have hnar : x.nar = false := hn0.trans hnr
  have H0 : Hr x (b_sini1 cs.length) Z EL1 0 0 h0 [s] 0 #[.val (.ref s), .val (.ref a)] [] := H0
  have H1 : Hr x (b_sini1 cs.length) Z EL1 0 0 h0 [s] 1 #[.val (.ref s), .val (.ref a)] [.ref s] := H0.aloadN d_sini1_0
  have H2 : Hr x (b_sini1 cs.length) Z EL1 0 0 h0 [s] 2 #[.val (.ref s), .val (.ref a)] [.ref a, .ref s] := H1.aloadN d_sini1_1
  have H3 : Hr x (b_sini1 cs.length) Z EL1 0 0 h0 [s] 3 #[.val (.ref s), .val (.ref a)] [.int (0 : Int32), .ref a, .ref s] := H2.iconst d_sini1_2
  have H4 : Hr x (b_sini1 cs.length) Z EL1 0 0 h0 [s] 4 #[.val (.ref s), .val (.ref a)] [.ref a, .int (0 : Int32), .ref a, .ref s] := H3.aloadN d_sini1_3
  have H5 : Hr x (b_sini1 cs.length) Z EL1 0 0 h0 [s] 5 #[.val (.ref s), .val (.ref a)] [.int (Int32.ofNat cs.length), .int (0 : Int32), .ref a, .ref s] := H4.arraylength Fa d_sini1_4 (hn := (by simp))
  have H6 : Hr x (b_sini1 cs.length) Z EL1 0 0 h0 [s] 6 #[.val (.ref s), .val (.ref a)] [.null, .int (Int32.ofNat cs.length), .int (0 : Int32), .ref a, .ref s] := H5.aconstNull d_sini1_5
  obtain ⟨_, h1, _, ⟨rfl, rfl, t, Fs⟩, K1, H7⟩ := H6.callI (argsL := [.ref a, .int (0 : Int32), .int (Int32.ofNat cs.length), .null]) (rest := []) (Wr := 0) (a := s) (ct_sini4 hw x.l x.nar x.kn hnar h0 s a cs Es Fc Fv Fa hcap hcs cz O hcz) (sub1 (List.mem_singleton.mpr rfl)) (w8 hw) (w9 hw) (w4 hw) (w11 hw) d_sini1_6 pd_sini4 rfl (hf := by first | (simp [b_sini1, Bx.R]; done) | (simp [b_sini1, Bx.R]; omega)) (hl := by first | (simp [b_sini1, Bx.R]; done) | (simp [b_sini1, Bx.R]; omega)) (hc := by first | (simp [b_sini1, Bx.R]; done) | (simp [b_sini1, Bx.R]; omega)) (hs := by first | (simp [b_sini1, Bx.R]; done) | (simp [b_sini1, Bx.R]; omega))
  have H7 : Hr x (b_sini1 cs.length) Z EL1 4 (0 + (8 + cs.length)) h1 [s] 9 #[.val (.ref s), .val (.ref a)] [] := H7
  exact H7.finN d_sini1_9 rfl (by first | (simp [b_sini1, Bx.R]; done) | (simp [b_sini1, Bx.R]; omega)) (by first | (simp [b_sini1, Bx.R]; done) | (simp [b_sini1, Bx.R]; omega)) sub0 ⟨rfl, rfl, t, Fs⟩
theorem Ar.uniq {Z : State} {h : Heap} {a : Addr} {ty ty' : FieldType} {vs ws : List Value} (A : Ar Z h a ty vs) (B : Ar Z h a ty' ws) : vs = ws := by
  obtain ⟨c, A1, A2, -⟩ := A
  obtain ⟨c', B1, B2, -⟩ := B
  cases A1.1.symm.trans B1.1
  exact A2.symm.trans B2
theorem int_inj : ∀ {as bs : List Int32}, as.map Value.int = bs.map Value.int → as = bs := fun {as bs} q => by
  have : Function.Injective Value.int := fun a b h => Value.int.inj h
  exact (List.map_inj_right (fun a b h => this h)).mp q
theorem Str.uniq {Z : State} {h : Heap} {a t u : Addr} {bs ds : List Int32} (F : Str Z h a t bs) (G : Str Z h a u ds) : bs = ds := by
  have e : t = u := Classical.byContradiction fun q => (F.2.2.1.ne G.2.2.1 (fun z => q (Value.ref.inj z))) rfl
  subst e
  exact int_inj (F.2.2.2.uniq G.2.2.2)
theorem ofNat_inj {m n : Nat} (hm : m < 2147483648) (hn : n < 2147483648) (q : Int32.ofNat m = Int32.ofNat n) : m = n := by
  have := congrArg Int32.toInt q
  rw [toInt_of rfl (by omega), toInt_of rfl (by omega)] at this
  omega
theorem take_next {as bs : List Int32} {i : Nat} (h1 : i < as.length) (h2 : i < bs.length) (q : as.take i = bs.take i) (e : as[i] = bs[i]) : as.take (i + 1) = bs.take (i + 1) := by
  rw [List.take_add_one, List.take_add_one, q, List.getElem?_eq_getElem h1, List.getElem?_eq_getElem h2, e]
def b_leq : Bx := (({ frames := 0, cells := 0, slots := 0, locals := 0 } : Room), (⟨"java/lang/StringLatin1", "equals", "([B[B)Z"⟩ : MethodName), jdk_43_method_13_code, 3, (Option.some Jvm.ClassFile.FieldType.boolean))
theorem ef_leq (t u : Addr) (mI : MethodId) : entryFrame mI #[.ref t, .ref u] 3 = mkF mI 0 #[.val (.ref t), .val (.ref u), .unset] [] := by first | (simp [entryFrame, mkF, argsToLocals, Value.category]; done) | rfl
theorem pn_java_lang_StringLatin1 : plainName "java/lang/StringLatin1" = true := by first | (simp [plainName, overriddenIn]; done) | decide +kernel
theorem pd_leq : parseMethodDescriptor "([B[B)Z" = some ⟨[(.array .byte), (.array .byte)], some .boolean⟩ := by decide +kernel
set_option maxRecDepth 65536 in
set_option maxHeartbeats 4000000 in
theorem ct_leq {a0 : Array Value} {Z : State} (hw : ∀ d ∈ tables_1, d.before a0 Z = true) (l : Launch) (nar kn : Bool) (hnr : nar = false) (h0 : Heap) (t u : Addr) (bs ds : List Int32) (Ft : Ar Z h0 t .byte (bs.map Value.int)) (Fu : Ar Z h0 u .byte (ds.map Value.int)) :
    Ct l Z EL1 (⟨"java/lang/StringLatin1", "equals", "([B[B)Z"⟩ : MethodName) jdk_43_method_13_code 3 (Option.some Jvm.ClassFile.FieldType.boolean) ({ frames := 0, cells := 0, slots := 0, locals := 0 } : Room) #[.ref t, .ref u] h0 [] nar kn (fun v h sn => v = some (.int (if bs = ds then 1 else 0)) ∧ sn = [] ∧ h = h0) := by
  refine Ct.intro (plainFor_of_name pn_java_lang_StringLatin1) (ew hw) (ef_leq t u) ?_
  intro x hl hn0 hkn hsf hh H0
  have hnar : x.nar = false := hn0.trans hnr
  have H0 : Hr x b_leq Z EL1 0 0 h0 [] 0 #[.val (.ref t), .val (.ref u), .unset] [] := H0
  have hb : bs.length < 2147483648 := by simpa using Ft.len
  have hd : ds.length < 2147483648 := by simpa using Fu.len
  have H1 : Hr x b_leq Z EL1 0 0 h0 [] 1 #[.val (.ref t), .val (.ref u), .unset] [.ref t] := H0.aloadN d_leq_0
  have H2 : Hr x b_leq Z EL1 0 0 h0 [] 2 #[.val (.ref t), .val (.ref u), .unset] [.int (Int32.ofNat bs.length)] := H1.arraylength Ft d_leq_1 (hn := (by simp))
  have H3 : Hr x b_leq Z EL1 0 0 h0 [] 3 #[.val (.ref t), .val (.ref u), .unset] [.ref u, .int (Int32.ofNat bs.length)] := H2.aloadN d_leq_2
  have H4 : Hr x b_leq Z EL1 0 0 h0 [] 4 #[.val (.ref t), .val (.ref u), .unset] [.int (Int32.ofNat ds.length), .int (Int32.ofNat bs.length)] := H3.arraylength Fu d_leq_3 (hn := (by simp))
  by_cases hl2 : bs.length = ds.length
  · have hlI : Int32.ofNat bs.length = Int32.ofNat ds.length := congrArg _ hl2
    have H5 : Hr x b_leq Z EL1 0 0 h0 [] 7 #[.val (.ref t), .val (.ref u), .unset] [] := H4.icmpF d_leq_4 (XT.ii_ne_f hlI)
    have H6 : Hr x b_leq Z EL1 0 0 h0 [] 8 #[.val (.ref t), .val (.ref u), .unset] [.int (0 : Int32)] := H5.iconst d_leq_7
    have H7 : Hr x b_leq Z EL1 0 0 h0 [] 9 #[.val (.ref t), .val (.ref u), .val (.int (0 : Int32))] [] := H6.istoreN d_leq_8
    have loop : ∀ (k i : Nat), i + k = bs.length → bs.take i = ds.take i → Hr x b_leq Z EL1 0 0 h0 [] 9 #[.val (.ref t), .val (.ref u), .val (.int (Int32.ofNat i))] [] → Ends x b_leq Z EL1 (fun v h sn => v = some (.int (if bs = ds then 1 else 0)) ∧ sn = [] ∧ h = h0) := by
      intro k
      induction k with
      | zero =>
        intro i hi hq H
        obtain rfl : i = bs.length := by omega
        have H8 : Hr x b_leq Z EL1 0 0 h0 [] 10 #[.val (.ref t), .val (.ref u), .val (.int (Int32.ofNat bs.length))] [.int (Int32.ofNat bs.length)] := H.iloadN d_leq_9
        have H9 : Hr x b_leq Z EL1 0 0 h0 [] 11 #[.val (.ref t), .val (.ref u), .val (.int (Int32.ofNat bs.length))] [.ref t, .int (Int32.ofNat bs.length)] := H8.aloadN d_leq_10
        have H10 : Hr x b_leq Z EL1 0 0 h0 [] 12 #[.val (.ref t), .val (.ref u), .val (.int (Int32.ofNat bs.length))] [.int (Int32.ofNat bs.length), .int (Int32.ofNat bs.length)] := H9.arraylength Ft d_leq_11 (hn := (by simp))
        have H11 : Hr x b_leq Z EL1 0 0 h0 [] 32 #[.val (.ref t), .val (.ref u), .val (.int (Int32.ofNat bs.length))] [] := H10.icmpT d_leq_12 (XT.ii_ge_t (by simp))
        have H12 : Hr x b_leq Z EL1 0 0 h0 [] 33 #[.val (.ref t), .val (.ref u), .val (.int (Int32.ofNat bs.length))] [.int (1 : Int32)] := H11.iconst d_leq_32
        have e : bs = ds := by rw [List.take_length] at hq; rw [hl2, List.take_length] at hq; exact hq
        exact H12.finZ d_leq_33 (t := .boolean) (by first | rfl | decide) ⟨by rw [if_pos e], rfl, rfl⟩ sub0
      | succ k ih =>
        intro i hi hq H
        have hi1 : i < bs.length := by omega
        have hi2 : i < ds.length := by omega
        have hlt : Int32.ofNat i < Int32.ofNat bs.length := by rw [Int32.lt_iff_toInt_lt, toInt_of rfl (by omega), toInt_of rfl (by omega)]; omega
        have H8 : Hr x b_leq Z EL1 0 0 h0 [] 10 #[.val (.ref t), .val (.ref u), .val (.int (Int32.ofNat i))] [.int (Int32.ofNat i)] := H.iloadN d_leq_9
        have H9 : Hr x b_leq Z EL1 0 0 h0 [] 11 #[.val (.ref t), .val (.ref u), .val (.int (Int32.ofNat i))] [.ref t, .int (Int32.ofNat i)] := H8.aloadN d_leq_10
        have H10 : Hr x b_leq Z EL1 0 0 h0 [] 12 #[.val (.ref t), .val (.ref u), .val (.int (Int32.ofNat i))] [.int (Int32.ofNat bs.length), .int (Int32.ofNat i)] := H9.arraylength Ft d_leq_11 (hn := (by simp))
        have H11 : Hr x b_leq Z EL1 0 0 h0 [] 15 #[.val (.ref t), .val (.ref u), .val (.int (Int32.ofNat i))] [] := H10.icmpF d_leq_12 (XT.ii_ge_f hlt)
        have H12 : Hr x b_leq Z EL1 0 0 h0 [] 16 #[.val (.ref t), .val (.ref u), .val (.int (Int32.ofNat i))] [.ref t] := H11.aloadN d_leq_15
        have H13 : Hr x b_leq Z EL1 0 0 h0 [] 17 #[.val (.ref t), .val (.ref u), .val (.int (Int32.ofNat i))] [.int (Int32.ofNat i), .ref t] := H12.iloadN d_leq_16
        have H14 : Hr x b_leq Z EL1 0 0 h0 [] 18 #[.val (.ref t), .val (.ref u), .val (.int (Int32.ofNat i))] [.int (bs[i])] := H13.baload Ft d_leq_17 (i := i) rfl (by simp [hi1])
        have H15 : Hr x b_leq Z EL1 0 0 h0 [] 19 #[.val (.ref t), .val (.ref u), .val (.int (Int32.ofNat i))] [.ref u, .int (bs[i])] := H14.aloadN d_leq_18
        have H16 : Hr x b_leq Z EL1 0 0 h0 [] 20 #[.val (.ref t), .val (.ref u), .val (.int (Int32.ofNat i))] [.int (Int32.ofNat i), .ref u, .int (bs[i])] := H15.iloadN d_leq_19
        have H17 : Hr x b_leq Z EL1 0 0 h0 [] 21 #[.val (.ref t), .val (.ref u), .val (.int (Int32.ofNat i))] [.int (ds[i]), .int (bs[i])] := H16.baload Fu d_leq_20 (i := i) rfl (by simp [hi2])
        by_cases he : bs[i] = ds[i]
        · have hinc := (inc_ofNat i).symm
          have H18 : Hr x b_leq Z EL1 0 0 h0 [] 26 #[.val (.ref t), .val (.ref u), .val (.int (Int32.ofNat i))] [] := H17.icmpT d_leq_21 (XT.ii_eq_t he)
          have H19 : Hr x b_leq Z EL1 0 0 h0 [] 29 #[.val (.ref t), .val (.ref u), .val (.int (Int32.ofNat (i + 1)))] [] := H18.iinc d_leq_26 (v := (Int32.ofNat (i + 1))) (hv := hinc)
          have H20 : Hr x b_leq Z EL1 0 0 h0 [] 9 #[.val (.ref t), .val (.ref u), .val (.int (Int32.ofNat (i + 1)))] [] := H19.goto d_leq_29
          exact ih (i + 1) (by omega) (take_next hi1 hi2 hq he) H20
        · have hne : ¬ bs = ds := fun q => he (by subst q; rfl)
          have H21 : Hr x b_leq Z EL1 0 0 h0 [] 24 #[.val (.ref t), .val (.ref u), .val (.int (Int32.ofNat i))] [] := H17.icmpF d_leq_21 (XT.ii_eq_f he)
          have H22 : Hr x b_leq Z EL1 0 0 h0 [] 25 #[.val (.ref t), .val (.ref u), .val (.int (Int32.ofNat i))] [.int (0 : Int32)] := H21.iconst d_leq_24
          exact H22.finZ d_leq_25 (t := .boolean) (by first | rfl | decide) ⟨by rw [if_neg hne], rfl, rfl⟩ sub0
    exact loop bs.length 0 (by omega) rfl H7
  · have hne : ¬ bs = ds := fun q => hl2 (congrArg _ q)
    have H201 : Hr x b_leq Z EL1 0 0 h0 [] 34 #[.val (.ref t), .val (.ref u), .unset] [] := H4.icmpT d_leq_4 (XT.ii_ne_t fun q => hl2 (ofNat_inj hb hd q))
    have H202 : Hr x b_leq Z EL1 0 0 h0 [] 35 #[.val (.ref t), .val (.ref u), .unset] [.int (0 : Int32)] := H201.iconst d_leq_34
    exact H202.finZ d_leq_35 (t := .boolean) (by first | rfl | decide) ⟨by rw [if_neg hne], rfl, rfl⟩ sub0
def b_seq : Bx := (({ frames := 1, cells := 0, slots := 0, locals := 14 } : Room), (⟨"java/lang/String", "equals", "(Ljava/lang/Object;)Z"⟩ : MethodName), jdk_42_method_66_code, 3, (Option.some Jvm.ClassFile.FieldType.boolean))
theorem ef_seq (a c : Addr) (mI : MethodId) : entryFrame mI #[.ref a, .ref c] 3 = mkF mI 0 #[.val (.ref a), .val (.ref c), .unset] [] := by first | (simp [entryFrame, mkF, argsToLocals, Value.category]; done) | rfl
theorem pd_seq : parseMethodDescriptor "(Ljava/lang/Object;)Z" = some ⟨[(.object "java/lang/Object")], some .boolean⟩ := by decide +kernel
set_option maxRecDepth 65536 in
set_option maxHeartbeats 4000000 in
theorem ct_seq {a0 : Array Value} {Z : State} (hw : ∀ d ∈ tables_1, d.before a0 Z = true) (l : Launch) (nar kn : Bool) (hnr : nar = false) (h0 : Heap) (a t c u : Addr) (bs ds : List Int32) (Fa : Str Z h0 a t bs) (Fc : Str Z h0 c u ds) (cz : Int32) (O : Sta Z Z.heap "java/lang/String" "COMPACT_STRINGS" "Z" (.int cz)) (hcz : ¬ cz = 0) :
    Ct l Z EL1 (⟨"java/lang/String", "equals", "(Ljava/lang/Object;)Z"⟩ : MethodName) jdk_42_method_66_code 3 (Option.some Jvm.ClassFile.FieldType.boolean) ({ frames := 1, cells := 0, slots := 0, locals := 14 } : Room) #[.ref a, .ref c] h0 [] nar kn (fun v h sn => v = some (.int (if bs = ds then 1 else 0)) ∧ sn = [] ∧ h = h0) := by
  refine Ct.intro (plainFor_of_name pn_java_lang_String) (ew hw) (ef_seq a c) ?_
  intro x hl hn0 hkn hsf hh H0
  have hnar : x.nar = false := hn0.trans hnr
  have H0 : Hr x b_seq Z EL1 0 0 h0 [] 0 #[.val (.ref a), .val (.ref c), .unset] [] := H0
  have H1 : Hr x b_seq Z EL1 0 0 h0 [] 1 #[.val (.ref a), .val (.ref c), .unset] [.ref a] := H0.aloadN d_seq_0
  have H2 : Hr x b_seq Z EL1 0 0 h0 [] 2 #[.val (.ref a), .val (.ref c), .unset] [.ref c, .ref a] := H1.aloadN d_seq_1
  by_cases hac : a = c
  · have e : bs = ds := by subst hac; exact Fa.uniq Fc
    have H3 : Hr x b_seq Z EL1 0 0 h0 [] 5 #[.val (.ref a), .val (.ref c), .unset] [] := H2.acmpF d_seq_2 (by simp [XT.acmp, hac])
    have H4 : Hr x b_seq Z EL1 0 0 h0 [] 6 #[.val (.ref a), .val (.ref c), .unset] [.int (1 : Int32)] := H3.iconst d_seq_5
    exact H4.finZ d_seq_6 (t := .boolean) (by first | rfl | decide) ⟨by rw [if_pos e], rfl, rfl⟩ sub0
  · have hne : XT.acmp .ne (.ref a) (.ref c) = true := by simp [XT.acmp, hac]
    have H5 : Hr x b_seq Z EL1 0 0 h0 [] 7 #[.val (.ref a), .val (.ref c), .unset] [] := H2.acmpT d_seq_2 hne
    have H6 : Hr x b_seq Z EL1 0 0 h0 [] 8 #[.val (.ref a), .val (.ref c), .unset] [.ref c] := H5.aloadN d_seq_7
    have H7 : Hr x b_seq Z EL1 0 0 h0 [] 11 #[.val (.ref a), .val (.ref c), .unset] [.int (1 : Int32)] := H6.inst (w60 hw) (Ins.self Fc.1) d_seq_8
    have H8 : Hr x b_seq Z EL1 0 0 h0 [] 14 #[.val (.ref a), .val (.ref c), .unset] [] := H7.ifF d_seq_11 (XT.i0_eq_f (by decide))
    have H9 : Hr x b_seq Z EL1 0 0 h0 [] 15 #[.val (.ref a), .val (.ref c), .unset] [.ref c] := H8.aloadN d_seq_14
    have H10 : Hr x b_seq Z EL1 0 0 h0 [] 18 #[.val (.ref a), .val (.ref c), .unset] [.ref c] := H9.cast (w60 hw) (Ins.self Fc.1) d_seq_15
    have H11 : Hr x b_seq Z EL1 0 0 h0 [] 19 #[.val (.ref a), .val (.ref c), .val (.ref c)] [] := H10.astoreN d_seq_18
    have H12 : Hr x b_seq Z EL1 0 0 h0 [] 22 #[.val (.ref a), .val (.ref c), .val (.ref c)] [.int cz] := H11.getS (w23 hw) (O.ext H11.old) d_seq_19
    have H13 : Hr x b_seq Z EL1 0 0 h0 [] 25 #[.val (.ref a), .val (.ref c), .val (.ref c)] [] := H12.ifF d_seq_22 (XT.i0_eq_f hcz)
    have H14 : Hr x b_seq Z EL1 0 0 h0 [] 26 #[.val (.ref a), .val (.ref c), .val (.ref c)] [.ref a] := H13.aloadN d_seq_25
    have H15 : Hr x b_seq Z EL1 0 0 h0 [] 29 #[.val (.ref a), .val (.ref c), .val (.ref c)] [.int (0 : Int32)] := H14.getF (w22 hw) Fa.2.1 d_seq_26
    have H16 : Hr x b_seq Z EL1 0 0 h0 [] 30 #[.val (.ref a), .val (.ref c), .val (.ref c)] [.ref c, .int (0 : Int32)] := H15.aloadN d_seq_29
    have H17 : Hr x b_seq Z EL1 0 0 h0 [] 33 #[.val (.ref a), .val (.ref c), .val (.ref c)] [.int (0 : Int32), .int (0 : Int32)] := H16.getF (w22 hw) Fc.2.1 d_seq_30
    have H18 : Hr x b_seq Z EL1 0 0 h0 [] 36 #[.val (.ref a), .val (.ref c), .val (.ref c)] [] := H17.icmpF d_seq_33 (XT.ii_ne_f rfl)
    have H19 : Hr x b_seq Z EL1 0 0 h0 [] 37 #[.val (.ref a), .val (.ref c), .val (.ref c)] [.ref a] := H18.aloadN d_seq_36
    have H20 : Hr x b_seq Z EL1 0 0 h0 [] 40 #[.val (.ref a), .val (.ref c), .val (.ref c)] [.ref t] := H19.getF (w21 hw) Fa.2.2.1 d_seq_37
    have H21 : Hr x b_seq Z EL1 0 0 h0 [] 41 #[.val (.ref a), .val (.ref c), .val (.ref c)] [.ref c, .ref t] := H20.aloadN d_seq_40
    have H22 : Hr x b_seq Z EL1 0 0 h0 [] 44 #[.val (.ref a), .val (.ref c), .val (.ref c)] [.ref u, .ref t] := H21.getF (w21 hw) Fc.2.2.1 d_seq_41
    obtain ⟨_, h1, _, ⟨rfl, rfl, e1⟩, K1, H23⟩ := H22.callS (argsL := [.ref t, .ref u]) (rest := []) (Wr := 0) (ct_leq hw x.l x.nar x.kn hnar h0 t u bs ds Fa.2.2.2 Fc.2.2.2) sub0 (w61 hw) (w62 hw) (w63 hw) (w64 hw) d_seq_44 pd_leq rfl (hf := by first | decide | (simp [b_seq, Bx.R]; done) | (simp [b_seq, Bx.R]; omega)) (hl := by first | decide | (simp [b_seq, Bx.R]; done) | (simp [b_seq, Bx.R]; omega)) (hc := by first | decide | (simp [b_seq, Bx.R]; done) | (simp [b_seq, Bx.R]; omega)) (hs := by first | decide | (simp [b_seq, Bx.R]; done) | (simp [b_seq, Bx.R]; omega))
    rw [e1] at H23
    have H23 : Hr x b_seq Z EL1 0 0 h0 [] 47 #[.val (.ref a), .val (.ref c), .val (.ref c)] [.int (if bs = ds then 1 else 0)] := H23
    by_cases he : bs = ds
    · have e2 : (if bs = ds then (1 : Int32) else 0) = 1 := if_pos he
      have H24 : Hr x b_seq Z EL1 0 0 h0 [] 50 #[.val (.ref a), .val (.ref c), .val (.ref c)] [] := H23.ifF d_seq_47 (XT.i0_eq_f (by rw [e2]; decide))
      have H25 : Hr x b_seq Z EL1 0 0 h0 [] 51 #[.val (.ref a), .val (.ref c), .val (.ref c)] [.int (1 : Int32)] := H24.iconst d_seq_50
      have H26 : Hr x b_seq Z EL1 0 0 h0 [] 55 #[.val (.ref a), .val (.ref c), .val (.ref c)] [.int (1 : Int32)] := H25.goto d_seq_51
      exact H26.finZ d_seq_55 (t := .boolean) (by first | rfl | decide) ⟨by rw [e2], rfl, rfl⟩ sub0
    · have e2 : (if bs = ds then (1 : Int32) else 0) = 0 := if_neg he
      have H27 : Hr x b_seq Z EL1 0 0 h0 [] 54 #[.val (.ref a), .val (.ref c), .val (.ref c)] [] := H23.ifT d_seq_47 (XT.i0_eq_t e2)
      have H28 : Hr x b_seq Z EL1 0 0 h0 [] 55 #[.val (.ref a), .val (.ref c), .val (.ref c)] [.int (0 : Int32)] := H27.iconst d_seq_54
      exact H28.finZ d_seq_55 (t := .boolean) (by first | rfl | decide) ⟨by rw [e2], rfl, rfl⟩ sub0
def b_nini : Bx := (({ frames := 1, cells := 0, slots := 0, locals := 12 } : Room), (⟨"com/example/entity_context/entitycontext/query/NumericLiteral", "<init>", "(Ljava/lang/String;IZLjava/lang/String;)V"⟩ : MethodName), prog_11_method_1_code, 5, (Option.none : Option Jvm.ClassFile.FieldType))
theorem ef_nini (s n : Addr) (r ap : Int32) (f : Addr) (mI : MethodId) : entryFrame mI #[.ref s, .ref n, .int r, .int ap, .ref f] 5 = mkF mI 0 #[.val (.ref s), .val (.ref n), .val (.int r), .val (.int ap), .val (.ref f)] [] := by first | (simp [entryFrame, mkF, argsToLocals, Value.category]; done) | rfl
theorem pn_com_example_entity_context_entitycontext_query_NumericLiteral : plainName "com/example/entity_context/entitycontext/query/NumericLiteral" = true := by first | (simp [plainName, overriddenIn]; done) | decide +kernel
theorem pd_nini : parseMethodDescriptor "(Ljava/lang/String;IZLjava/lang/String;)V" = some ⟨[(.object "java/lang/String"), .int, .boolean, (.object "java/lang/String")], none⟩ := by decide +kernel
set_option maxRecDepth 65536 in
set_option maxHeartbeats 4000000 in
theorem ct_nini {a0 : Array Value} {Z : State} (hw : ∀ d ∈ tables_1, d.before a0 Z = true) (l : Launch) (nar kn : Bool) (hnr : nar = false) (h0 : Heap) (s n : Addr) (r ap : Int32) (f : Addr) (hap : ap = 0 ∨ ap = 1) (Es : Exa Z h0 s "com/example/entity_context/entitycontext/query/NumericLiteral") (F0 : Fld Z h0 s "com/example/entity_context/entitycontext/query/NumericLiteral" "number" "Ljava/lang/String;" (.null)) (F1 : Fld Z h0 s "com/example/entity_context/entitycontext/query/NumericLiteral" "radix" "I" (.int 0)) (F2 : Fld Z h0 s "com/example/entity_context/entitycontext/query/NumericLiteral" "approximate" "Z" (.int 0)) (F3 : Fld Z h0 s "com/example/entity_context/entitycontext/query/NumericLiteral" "suffix" "Ljava/lang/String;" (.null)) :
    Ct l Z EL1 (⟨"com/example/entity_context/entitycontext/query/NumericLiteral", "<init>", "(Ljava/lang/String;IZLjava/lang/String;)V"⟩ : MethodName) prog_11_method_1_code 5 (Option.none : Option Jvm.ClassFile.FieldType) ({ frames := 1, cells := 0, slots := 0, locals := 12 } : Room) #[.ref s, .ref n, .int r, .int ap, .ref f] h0 [s] nar kn (fun v h sn => v = none ∧ sn = [] ∧ Exa Z h s "com/example/entity_context/entitycontext/query/NumericLiteral" ∧ Fld Z h s "com/example/entity_context/entitycontext/query/NumericLiteral" "approximate" "Z" (.int ap) ∧ Fld Z h s "com/example/entity_context/entitycontext/query/NumericLiteral" "suffix" "Ljava/lang/String;" (.ref f)) := by
  refine Ct.intro (plainFor_of_name pn_com_example_entity_context_entitycontext_query_NumericLiteral) (ew hw) (ef_nini s n r ap f) ?_
  intro x hl hn0 hkn hsf hh H0
  have hnar : x.nar = false := hn0.trans hnr
  have H0 : Hr x b_nini Z EL1 0 0 h0 [s] 0 #[.val (.ref s), .val (.ref n), .val (.int r), .val (.int ap), .val (.ref f)] [] := H0
  have hf2 : fits .boolean (.int ap) = true := by rcases hap with rfl | rfl <;> rfl
  have hn2 : narrow .boolean (.int ap) = .int ap := by rcases hap with rfl | rfl <;> rfl
  have n01 := slot_ne (a0 := a0) (C := "com/example/entity_context/entitycontext/query/NumericLiteral") (n := "number") (n' := "radix") (Or.inr (w42 hw)) (Or.inr (w44 hw)) (by decide) (t := .object "java/lang/String") (t' := .int) (by decide) (by decide)
  have n02 := slot_ne (a0 := a0) (C := "com/example/entity_context/entitycontext/query/NumericLiteral") (n := "number") (n' := "approximate") (Or.inr (w42 hw)) (Or.inr (w46 hw)) (by decide) (t := .object "java/lang/String") (t' := .boolean) (by decide) (by decide)
  have n03 := slot_ne (a0 := a0) (C := "com/example/entity_context/entitycontext/query/NumericLiteral") (n := "number") (n' := "suffix") (Or.inr (w42 hw)) (Or.inr (w48 hw)) (by decide) (t := .object "java/lang/String") (t' := .object "java/lang/String") (by decide) (by decide)
  have n12 := slot_ne (a0 := a0) (C := "com/example/entity_context/entitycontext/query/NumericLiteral") (n := "radix") (n' := "approximate") (Or.inr (w44 hw)) (Or.inr (w46 hw)) (by decide) (t := .int) (t' := .boolean) (by decide) (by decide)
  have n13 := slot_ne (a0 := a0) (C := "com/example/entity_context/entitycontext/query/NumericLiteral") (n := "radix") (n' := "suffix") (Or.inr (w44 hw)) (Or.inr (w48 hw)) (by decide) (t := .int) (t' := .object "java/lang/String") (by decide) (by decide)
  have n23 := slot_ne (a0 := a0) (C := "com/example/entity_context/entitycontext/query/NumericLiteral") (n := "approximate") (n' := "suffix") (Or.inr (w46 hw)) (Or.inr (w48 hw)) (by decide) (t := .boolean) (t' := .object "java/lang/String") (by decide) (by decide)
  have H1 : Hr x b_nini Z EL1 0 0 h0 [s] 1 #[.val (.ref s), .val (.ref n), .val (.int r), .val (.int ap), .val (.ref f)] [.ref s] := H0.aloadN d_nini_0
  have H2 : Hr x b_nini Z EL1 0 0 h0 [s] 4 #[.val (.ref s), .val (.ref n), .val (.int r), .val (.int ap), .val (.ref f)] [] := H1.initO (Wr := 0) (w40 hw) (w13 hw) (w14 hw) d_nini_1 (hf := by first | decide | (simp [b_nini, Bx.R]; done) | (simp [b_nini, Bx.R]; omega)) (hl := by first | decide | (simp [b_nini, Bx.R]; done) | (simp [b_nini, Bx.R]; omega))
  have H3 : Hr x b_nini Z EL1 0 0 h0 [s] 5 #[.val (.ref s), .val (.ref n), .val (.int r), .val (.int ap), .val (.ref f)] [.ref s] := H2.aloadN d_nini_4
  have H4 : Hr x b_nini Z EL1 0 0 h0 [s] 6 #[.val (.ref s), .val (.ref n), .val (.int r), .val (.int ap), .val (.ref f)] [.ref n, .ref s] := H3.aloadN d_nini_5
  obtain ⟨h1, W1, H5⟩ := H4.putF (by simp) (w41 hw) F0 Es (Or.inr ⟨(w42 hw), rfl, rfl⟩) (w35 hw) d_nini_6 (ty := (.object "java/lang/String"))
  have H5 : Hr x b_nini Z EL1 0 0 h1 [s] 9 #[.val (.ref s), .val (.ref n), .val (.int r), .val (.int ap), .val (.ref f)] [] := H5
  have H6 : Hr x b_nini Z EL1 0 0 h1 [s] 10 #[.val (.ref s), .val (.ref n), .val (.int r), .val (.int ap), .val (.ref f)] [.ref s] := H5.aloadN d_nini_9
  have H7 : Hr x b_nini Z EL1 0 0 h1 [s] 11 #[.val (.ref s), .val (.ref n), .val (.int r), .val (.int ap), .val (.ref f)] [.int r, .ref s] := H6.iloadN d_nini_10
  obtain ⟨h2, W2, H8⟩ := H7.putF (by simp) (w43 hw) (F1.other W1 (Or.inr (Ne.symm n01))) (Es.wr W1) (Or.inr ⟨(w44 hw), rfl, rfl⟩) (w35 hw) d_nini_11 (ty := .int)
  have H8 : Hr x b_nini Z EL1 0 0 h2 [s] 14 #[.val (.ref s), .val (.ref n), .val (.int r), .val (.int ap), .val (.ref f)] [] := H8
  have H9 : Hr x b_nini Z EL1 0 0 h2 [s] 15 #[.val (.ref s), .val (.ref n), .val (.int r), .val (.int ap), .val (.ref f)] [.ref s] := H8.aloadN d_nini_14
  have H10 : Hr x b_nini Z EL1 0 0 h2 [s] 16 #[.val (.ref s), .val (.ref n), .val (.int r), .val (.int ap), .val (.ref f)] [.int ap, .ref s] := H9.iloadN d_nini_15
  obtain ⟨h3, W3, H11⟩ := H10.putF (by simp) (w45 hw) ((F2.other W1 (Or.inr (Ne.symm n02))).other W2 (Or.inr (Ne.symm n12))) ((Es.wr W1).wr W2) (Or.inr ⟨(w46 hw), rfl, rfl⟩) (w35 hw) d_nini_16 (ty := .boolean) (hn := hn2) (hf := hf2)
  have H11 : Hr x b_nini Z EL1 0 0 h3 [s] 19 #[.val (.ref s), .val (.ref n), .val (.int r), .val (.int ap), .val (.ref f)] [] := H11
  have H12 : Hr x b_nini Z EL1 0 0 h3 [s] 20 #[.val (.ref s), .val (.ref n), .val (.int r), .val (.int ap), .val (.ref f)] [.ref s] := H11.aloadN d_nini_19
  have H13 : Hr x b_nini Z EL1 0 0 h3 [s] 22 #[.val (.ref s), .val (.ref n), .val (.int r), .val (.int ap), .val (.ref f)] [.ref f, .ref s] := H12.aload d_nini_20
  obtain ⟨h4, W4, H14⟩ := H13.putF (by simp) (w47 hw) (((F3.other W1 (Or.inr (Ne.symm n03))).other W2 (Or.inr (Ne.symm n13))).other W3 (Or.inr (Ne.symm n23))) (((Es.wr W1).wr W2).wr W3) (Or.inr ⟨(w48 hw), rfl, rfl⟩) (w35 hw) d_nini_22 (ty := (.object "java/lang/String"))
  have H14 : Hr x b_nini Z EL1 0 0 h4 [s] 25 #[.val (.ref s), .val (.ref n), .val (.int r), .val (.int ap), .val (.ref f)] [] := H14
  exact H14.finN d_nini_25 rfl (by decide) (by decide) sub0 ⟨rfl, rfl, ((((Es.wr W1).wr W2).wr W3).wr W4), ((Fld.same W3 ((F2.other W1 (Or.inr (Ne.symm n02))).other W2 (Or.inr (Ne.symm n12)))).other W4 (Or.inr n23)), (Fld.same W4 (((F3.other W1 (Or.inr (Ne.symm n03))).other W2 (Or.inr (Ne.symm n13))).other W3 (Or.inr (Ne.symm n23))))⟩
def tF : List Int32 := [102]
def tD : List Int32 := [100]
def tBD : List Int32 := [98, 100]
def tFl : List Int32 := [116, 104, 101, 32, 102, 108, 111, 97, 116]
def tDe : List Int32 := [116, 104, 101, 32, 100, 101, 99, 105, 109, 97, 108]
def tIn : List Int32 := [116, 104, 101, 32, 105, 110, 116, 101, 103, 101, 114]
/-- what describe() answers -/
def dsc (bs : List Int32) (ap : Int32) : List Int32 := if bs = tF then tFl else if ¬ ap = 0 then tDe else if bs = tD then tDe else if bs = tBD then tDe else tIn
def b_desc : Bx := (({ frames := 2, cells := 8, slots := 80, locals := 28 } : Room), (⟨"com/example/entity_context/entitycontext/query/NumericLiteral", "describe", "()Ljava/lang/String;"⟩ : MethodName), prog_11_method_3_code, 2, (Option.some (Jvm.ClassFile.FieldType.object "java/lang/String")))
theorem ef_desc (s : Addr) (mI : MethodId) : entryFrame mI #[.ref s] 2 = mkF mI 0 #[.val (.ref s), .unset] [] := by first | (simp [entryFrame, mkF, argsToLocals, Value.category]; done) | rfl
theorem pd_desc : parseMethodDescriptor "()Ljava/lang/String;" = some ⟨[], some (.object "java/lang/String")⟩ := by decide +kernel
set_option maxRecDepth 65536 in
set_option maxHeartbeats 4000000 in
theorem ct_desc {a0 : Array Value} {Z : State} (hw : ∀ d ∈ tables_1, d.before a0 Z = true) (l : Launch) (nar kn : Bool) (hnr : nar = false) (h0 : Heap) (s f t : Addr) (ap : Int32) (bs : List Int32) (Fp : Fld Z h0 s "com/example/entity_context/entitycontext/query/NumericLiteral" "approximate" "Z" (.int ap)) (Ff : Fld Z h0 s "com/example/entity_context/entitycontext/query/NumericLiteral" "suffix" "Ljava/lang/String;" (.ref f)) (Fs : Str Z h0 f t bs) (cz : Int32) (O : Sta Z Z.heap "java/lang/String" "COMPACT_STRINGS" "Z" (.int cz)) (hcz : ¬ cz = 0) :
    Ct l Z EL1 (⟨"com/example/entity_context/entitycontext/query/NumericLiteral", "describe", "()Ljava/lang/String;"⟩ : MethodName) prog_11_method_3_code 2 (Option.some (Jvm.ClassFile.FieldType.object "java/lang/String")) ({ frames := 2, cells := 8, slots := 80, locals := 28 } : Room) #[.ref s] h0 [] nar kn (fun v h sn => ∃ a u, v = some (.ref a) ∧ sn = [] ∧ Str Z h a u (dsc bs ap)) := by
  refine Ct.intro (plainFor_of_name pn_com_example_entity_context_entitycontext_query_NumericLiteral) (ew hw) (ef_desc s) ?_
  intro x hl hn0 hkn hsf hh H0
  have hnar : x.nar = false := hn0.trans hnr
  have H0 : Hr x b_desc Z EL1 0 0 h0 [] 0 #[.val (.ref s), .unset] [] := H0
  have H1 : Hr x b_desc Z EL1 0 0 h0 [] 1 #[.val (.ref s), .unset] [.ref s] := H0.aloadN d_desc_0
  have H2 : Hr x b_desc Z EL1 0 0 h0 [] 4 #[.val (.ref s), .unset] [.ref f] := H1.getF (w47 hw) Ff d_desc_1
  obtain ⟨la, ma, ha, Ea, La, na, H3⟩ := H2.ldcS (n := 4) (bs := tF) (z := 1) (w54 hw) (wStr hw) (ew hw) (by decide) (by decide) (by decide) (by decide) d_desc_4 (by decide) (by decide) hnar (by first | decide | (simp [b_desc, Bx.R]; done) | (simp [b_desc, Bx.R]; omega)) (by first | decide | (simp [b_desc, Bx.R]; done) | (simp [b_desc, Bx.R]; omega))
  have H3 : Hr x b_desc Z EL1 2 8 ha [] 6 #[.val (.ref s), .unset] [.ref la, .ref f] := H3
  obtain ⟨_, hqa, _, ⟨rfl, rfl, eqa⟩, Kqa, H4⟩ := H3.callV (argsL := [.ref la]) (rest := []) (Wr := 0) (a := f) (ct_seq hw x.l x.nar x.kn hnar ha f t la ma bs _ (Fs.ext Ea) La cz O hcz) sub0 (Fs.ext Ea).1 (w55 hw) (w56 hw) (w58 hw) (w58 hw) (w57 hw) (w4 hw) (w59 hw) d_desc_6 pd_seq rfl (hf := by first | decide | (simp [b_desc, Bx.R]; done) | (simp [b_desc, Bx.R]; omega)) (hl := by first | decide | (simp [b_desc, Bx.R]; done) | (simp [b_desc, Bx.R]; omega)) (hc := by first | decide | (simp [b_desc, Bx.R]; done) | (simp [b_desc, Bx.R]; omega)) (hs := by first | decide | (simp [b_desc, Bx.R]; done) | (simp [b_desc, Bx.R]; omega))
  rw [eqa] at H4
  have H4 : Hr x b_desc Z EL1 2 8 ha [] 9 #[.val (.ref s), .unset] [.int (if bs = tF then 1 else 0)] := H4
  by_cases qf : bs = tF
  · have z4 := qf
    have H5 : Hr x b_desc Z EL1 2 8 ha [] 12 #[.val (.ref s), .unset] [] := H4.ifF d_desc_9 (XT.i0_eq_f (by rw [if_pos qf]; decide))
    obtain ⟨lz, mz, hz, Ez, Lz, nz, H6⟩ := H5.ldcS (n := 36) (bs := tFl) (z := 9) (w72 hw) (wStr hw) (ew hw) (by decide) (by decide) (by decide) (by decide) d_desc_12 (by decide) (by decide) hnar (by first | decide | (simp [b_desc, Bx.R]; done) | (simp [b_desc, Bx.R]; omega)) (by first | decide | (simp [b_desc, Bx.R]; done) | (simp [b_desc, Bx.R]; omega))
    have H6 : Hr x b_desc Z EL1 4 48 hz [] 14 #[.val (.ref s), .unset] [.ref lz] := H6
    have H7 : Hr x b_desc Z EL1 4 48 hz [] 15 #[.val (.ref s), .val (.ref lz)] [] := H6.astoreN d_desc_14
    have H8 : Hr x b_desc Z EL1 4 48 hz [] 58 #[.val (.ref s), .val (.ref lz)] [] := H7.goto d_desc_15
    have H9 : Hr x b_desc Z EL1 4 48 hz [] 59 #[.val (.ref s), .val (.ref lz)] [.ref lz] := H8.aloadN d_desc_58
    exact H9.finA d_desc_59 ⟨_, _, rfl, rfl, by rw [show dsc bs ap = tFl by simp [dsc, qf]]; exact Lz⟩ sub0
  · have z9 := qf
    have H10 : Hr x b_desc Z EL1 2 8 ha [] 18 #[.val (.ref s), .unset] [] := H4.ifT d_desc_9 (XT.i0_eq_t (if_neg qf))
    have H11 : Hr x b_desc Z EL1 2 8 ha [] 19 #[.val (.ref s), .unset] [.ref s] := H10.aloadN d_desc_18
    have H12 : Hr x b_desc Z EL1 2 8 ha [] 22 #[.val (.ref s), .unset] [.int ap] := H11.getF (w45 hw) (Fp.ext Ea) d_desc_19
    by_cases qp : ap = 0
    · have z12 := qp
      have H13 : Hr x b_desc Z EL1 2 8 ha [] 25 #[.val (.ref s), .unset] [] := H12.ifF d_desc_22 (XT.i0_ne_f qp)
      have H14 : Hr x b_desc Z EL1 2 8 ha [] 26 #[.val (.ref s), .unset] [.ref s] := H13.aloadN d_desc_25
      have H15 : Hr x b_desc Z EL1 2 8 ha [] 29 #[.val (.ref s), .unset] [.ref f] := H14.getF (w47 hw) (Ff.ext Ea) d_desc_26
      obtain ⟨lb, mb, hb, Eb, Lb, nb, H16⟩ := H15.ldcS (n := 4) (bs := tD) (z := 1) (w68 hw) (wStr hw) (ew hw) (by decide) (by decide) (by decide) (by decide) d_desc_29 (by decide) (by decide) hnar (by first | decide | (simp [b_desc, Bx.R]; done) | (simp [b_desc, Bx.R]; omega)) (by first | decide | (simp [b_desc, Bx.R]; done) | (simp [b_desc, Bx.R]; omega))
      have H16 : Hr x b_desc Z EL1 4 16 hb [] 31 #[.val (.ref s), .unset] [.ref lb, .ref f] := H16
      obtain ⟨_, hqb, _, ⟨rfl, rfl, eqb⟩, Kqb, H17⟩ := H16.callV (argsL := [.ref lb]) (rest := []) (Wr := 0) (a := f) (ct_seq hw x.l x.nar x.kn hnar hb f t lb mb bs _ ((Fs.ext Ea).ext Eb) Lb cz O hcz) sub0 ((Fs.ext Ea).ext Eb).1 (w55 hw) (w56 hw) (w58 hw) (w58 hw) (w57 hw) (w4 hw) (w59 hw) d_desc_31 pd_seq rfl (hf := by first | decide | (simp [b_desc, Bx.R]; done) | (simp [b_desc, Bx.R]; omega)) (hl := by first | decide | (simp [b_desc, Bx.R]; done) | (simp [b_desc, Bx.R]; omega)) (hc := by first | decide | (simp [b_desc, Bx.R]; done) | (simp [b_desc, Bx.R]; omega)) (hs := by first | decide | (simp [b_desc, Bx.R]; done) | (simp [b_desc, Bx.R]; omega))
      rw [eqb] at H17
      have H17 : Hr x b_desc Z EL1 4 16 hb [] 34 #[.val (.ref s), .unset] [.int (if bs = tD then 1 else 0)] := H17
      by_cases qd : bs = tD
      · have z17 := qd
        have H18 : Hr x b_desc Z EL1 4 16 hb [] 49 #[.val (.ref s), .unset] [] := H17.ifT d_desc_34 (XT.i0_ne_t (by rw [if_pos qd]; decide))
        obtain ⟨lz, mz, hz, Ez, Lz, nz, H19⟩ := H18.ldcS (n := 44) (bs := tDe) (z := 11) (w65 hw) (wStr hw) (ew hw) (by decide) (by decide) (by decide) (by decide) d_desc_49 (by decide) (by decide) hnar (by first | decide | (simp [b_desc, Bx.R]; done) | (simp [b_desc, Bx.R]; omega)) (by first | decide | (simp [b_desc, Bx.R]; done) | (simp [b_desc, Bx.R]; omega))
        have H19 : Hr x b_desc Z EL1 6 64 hz [] 51 #[.val (.ref s), .unset] [.ref lz] := H19
        have H20 : Hr x b_desc Z EL1 6 64 hz [] 52 #[.val (.ref s), .val (.ref lz)] [] := H19.astoreN d_desc_51
        have H21 : Hr x b_desc Z EL1 6 64 hz [] 58 #[.val (.ref s), .val (.ref lz)] [] := H20.goto d_desc_52
        have H22 : Hr x b_desc Z EL1 6 64 hz [] 59 #[.val (.ref s), .val (.ref lz)] [.ref lz] := H21.aloadN d_desc_58
        exact H22.finA d_desc_59 ⟨_, _, rfl, rfl, by rw [show dsc bs ap = tDe by simp [dsc, qp, qd, show ¬ tD = tF by decide]]; exact Lz⟩ sub0
      · have z22 := qd
        have H23 : Hr x b_desc Z EL1 4 16 hb [] 37 #[.val (.ref s), .unset] [] := H17.ifF d_desc_34 (XT.i0_ne_f (if_neg qd))
        have H24 : Hr x b_desc Z EL1 4 16 hb [] 38 #[.val (.ref s), .unset] [.ref s] := H23.aloadN d_desc_37
        have H25 : Hr x b_desc Z EL1 4 16 hb [] 41 #[.val (.ref s), .unset] [.ref f] := H24.getF (w47 hw) ((Ff.ext Ea).ext Eb) d_desc_38
        obtain ⟨lc, mc, hc, Ec, Lc, nc, H26⟩ := H25.ldcS (n := 8) (bs := tBD) (z := 2) (w69 hw) (wStr hw) (ew hw) (by decide) (by decide) (by decide) (by decide) d_desc_41 (by decide) (by decide) hnar (by first | decide | (simp [b_desc, Bx.R]; done) | (simp [b_desc, Bx.R]; omega)) (by first | decide | (simp [b_desc, Bx.R]; done) | (simp [b_desc, Bx.R]; omega))
        have H26 : Hr x b_desc Z EL1 6 28 hc [] 43 #[.val (.ref s), .unset] [.ref lc, .ref f] := H26
        obtain ⟨_, hqc, _, ⟨rfl, rfl, eqc⟩, Kqc, H27⟩ := H26.callV (argsL := [.ref lc]) (rest := []) (Wr := 0) (a := f) (ct_seq hw x.l x.nar x.kn hnar hc f t lc mc bs _ (((Fs.ext Ea).ext Eb).ext Ec) Lc cz O hcz) sub0 (((Fs.ext Ea).ext Eb).ext Ec).1 (w55 hw) (w56 hw) (w58 hw) (w58 hw) (w57 hw) (w4 hw) (w59 hw) d_desc_43 pd_seq rfl (hf := by first | decide | (simp [b_desc, Bx.R]; done) | (simp [b_desc, Bx.R]; omega)) (hl := by first | decide | (simp [b_desc, Bx.R]; done) | (simp [b_desc, Bx.R]; omega)) (hc := by first | decide | (simp [b_desc, Bx.R]; done) | (simp [b_desc, Bx.R]; omega)) (hs := by first | decide | (simp [b_desc, Bx.R]; done) | (simp [b_desc, Bx.R]; omega))
        rw [eqc] at H27
        have H27 : Hr x b_desc Z EL1 6 28 hc [] 46 #[.val (.ref s), .unset] [.int (if bs = tBD then 1 else 0)] := H27
        by_cases qb : bs = tBD
        · have z27 := qb
          have H28 : Hr x b_desc Z EL1 6 28 hc [] 49 #[.val (.ref s), .unset] [] := H27.ifF d_desc_46 (XT.i0_eq_f (by rw [if_pos qb]; decide))
          obtain ⟨lz, mz, hz, Ez, Lz, nz, H29⟩ := H28.ldcS (n := 44) (bs := tDe) (z := 11) (w65 hw) (wStr hw) (ew hw) (by decide) (by decide) (by decide) (by decide) d_desc_49 (by decide) (by decide) hnar (by first | decide | (simp [b_desc, Bx.R]; done) | (simp [b_desc, Bx.R]; omega)) (by first | decide | (simp [b_desc, Bx.R]; done) | (simp [b_desc, Bx.R]; omega))
          have H29 : Hr x b_desc Z EL1 8 76 hz [] 51 #[.val (.ref s), .unset] [.ref lz] := H29
          have H30 : Hr x b_desc Z EL1 8 76 hz [] 52 #[.val (.ref s), .val (.ref lz)] [] := H29.astoreN d_desc_51
          have H31 : Hr x b_desc Z EL1 8 76 hz [] 58 #[.val (.ref s), .val (.ref lz)] [] := H30.goto d_desc_52
          have H32 : Hr x b_desc Z EL1 8 76 hz [] 59 #[.val (.ref s), .val (.ref lz)] [.ref lz] := H31.aloadN d_desc_58
          exact H32.finA d_desc_59 ⟨_, _, rfl, rfl, by rw [show dsc bs ap = tDe by simp [dsc, qp, qb, show ¬ tBD = tF by decide]]; exact Lz⟩ sub0
        · have z32 := qb
          have H33 : Hr x b_desc Z EL1 6 28 hc [] 55 #[.val (.ref s), .unset] [] := H27.ifT d_desc_46 (XT.i0_eq_t (if_neg qb))
          obtain ⟨lz, mz, hz, Ez, Lz, nz, H34⟩ := H33.ldcS (n := 44) (bs := tIn) (z := 11) (w70 hw) (wStr hw) (ew hw) (by decide) (by decide) (by decide) (by decide) d_desc_55 (by decide) (by decide) hnar (by first | decide | (simp [b_desc, Bx.R]; done) | (simp [b_desc, Bx.R]; omega)) (by first | decide | (simp [b_desc, Bx.R]; done) | (simp [b_desc, Bx.R]; omega))
          have H34 : Hr x b_desc Z EL1 8 76 hz [] 57 #[.val (.ref s), .unset] [.ref lz] := H34
          have H35 : Hr x b_desc Z EL1 8 76 hz [] 58 #[.val (.ref s), .val (.ref lz)] [] := H34.astoreN d_desc_57
          have H36 : Hr x b_desc Z EL1 8 76 hz [] 59 #[.val (.ref s), .val (.ref lz)] [.ref lz] := H35.aloadN d_desc_58
          exact H36.finA d_desc_59 ⟨_, _, rfl, rfl, by rw [show dsc bs ap = tIn by simp [dsc, qf, qp, qd, qb]]; exact Lz⟩ sub0
    · have z36 := qp
      have H37 : Hr x b_desc Z EL1 2 8 ha [] 49 #[.val (.ref s), .unset] [] := H12.ifT d_desc_22 (XT.i0_ne_t qp)
      obtain ⟨lz, mz, hz, Ez, Lz, nz, H38⟩ := H37.ldcS (n := 44) (bs := tDe) (z := 11) (w65 hw) (wStr hw) (ew hw) (by decide) (by decide) (by decide) (by decide) d_desc_49 (by decide) (by decide) hnar (by first | decide | (simp [b_desc, Bx.R]; done) | (simp [b_desc, Bx.R]; omega)) (by first | decide | (simp [b_desc, Bx.R]; done) | (simp [b_desc, Bx.R]; omega))
      have H38 : Hr x b_desc Z EL1 4 56 hz [] 51 #[.val (.ref s), .unset] [.ref lz] := H38
      have H39 : Hr x b_desc Z EL1 4 56 hz [] 52 #[.val (.ref s), .val (.ref lz)] [] := H38.astoreN d_desc_51
      have H40 : Hr x b_desc Z EL1 4 56 hz [] 58 #[.val (.ref s), .val (.ref lz)] [] := H39.goto d_desc_52
      have H41 : Hr x b_desc Z EL1 4 56 hz [] 59 #[.val (.ref s), .val (.ref lz)] [.ref lz] := H40.aloadN d_desc_58
      exact H41.finA d_desc_59 ⟨_, _, rfl, rfl, by rw [show dsc bs ap = tDe by simp [dsc, qf, qp]]; exact Lz⟩ sub0
/-- the suffix of kind k -/
def sfx (k : Int32) : List Int32 := if k = 0 then [] else if k = 1 then [108] else if k = 2 then [100] else if k = 3 then [102] else if k = 4 then [98, 105] else [98, 100]
/-- what the law wants -/
def want (k ap : Int32) : List Int32 := if k = 3 then tFl else if k = 2 then tDe else if k = 5 then tDe else if k = 0 ∧ ¬ ap = 0 then tDe else tIn
theorem mod6 (x : Int32) : (x &&& 2147483647) % 6 = 0 ∨ (x &&& 2147483647) % 6 = 1 ∨ (x &&& 2147483647) % 6 = 2 ∨ (x &&& 2147483647) % 6 = 3 ∨ (x &&& 2147483647) % 6 = 4 ∨ (x &&& 2147483647) % 6 = 5 := by
  have h := c_mask x 2147483647 31 (by omega) (by decide)
  have h2 := (c_irem (x &&& 2147483647) 6 6 (by decide)).1 (by omega)
  have e : ∀ z : Int32, z.toInt = 0 ∨ z.toInt = 1 ∨ z.toInt = 2 ∨ z.toInt = 3 ∨ z.toInt = 4 ∨ z.toInt = 5 → z = 0 ∨ z = 1 ∨ z = 2 ∨ z = 3 ∨ z = 4 ∨ z = 5 := fun z hz => by
    rcases hz with q | q | q | q | q | q
    · exact Or.inl (Int32.toInt_inj.mp (by rw [q]; decide))
    · exact Or.inr (Or.inl (Int32.toInt_inj.mp (by rw [q]; decide)))
    · exact Or.inr (Or.inr (Or.inl (Int32.toInt_inj.mp (by rw [q]; decide))))
    · exact Or.inr (Or.inr (Or.inr (Or.inl (Int32.toInt_inj.mp (by rw [q]; decide)))))
    · exact Or.inr (Or.inr (Or.inr (Or.inr (Or.inl (Int32.toInt_inj.mp (by rw [q]; decide))))))
    · exact Or.inr (Or.inr (Or.inr (Or.inr (Or.inr (Int32.toInt_inj.mp (by rw [q]; decide))))))
  apply e
  omega
theorem dsc_want {k ap : Int32} (hk : k = 0 ∨ k = 1 ∨ k = 2 ∨ k = 3 ∨ k = 4 ∨ k = 5) (hap : ap = 0 ∨ ap = 1) (h1 : k = 1 → ap = 0) (h4 : k = 4 → ap = 0) : dsc ((sfx k).map b8) ap = want k ap := by
  rcases hk with rfl | rfl | rfl | rfl | rfl | rfl <;> rcases hap with rfl | rfl <;> first | decide | exact absurd (h1 rfl) (by decide) | exact absurd (h4 rfl) (by decide)
def b_at : Bx := (({ frames := 7, cells := 48, slots := 10432, locals := 176 } : Room), (⟨"com/example/entity_context/entitycontext/query/NumericLiteralDescribePinLaw", "law", "(IIII)Z"⟩ : MethodName), code, 12, ret)
theorem ef_at (p0 : Int32) (p1 : Int32) (p2 : Int32) (p3 : Int32) (mI : MethodId) : entryFrame mI #[.int p0, .int p1, .int p2, .int p3] 12 = mkF mI 0 #[.val (.int p0), .val (.int p1), .val (.int p2), .val (.int p3), .unset, .unset, .unset, .unset, .unset, .unset, .unset, .unset] [] := by first | (simp [entryFrame, mkF, argsToLocals, Value.category]; done) | rfl
theorem pn_com_example_entity_context_entitycontext_query_NumericLiteralDescribePinLaw : plainName "com/example/entity_context/entitycontext/query/NumericLiteralDescribePinLaw" = true := by first | (simp [plainName, overriddenIn]; done) | decide +kernel
theorem pd_at : parseMethodDescriptor "(IIII)Z" = some ⟨[.int, .int, .int, .int], some .boolean⟩ := by decide +kernel
set_option maxRecDepth 65536 in
set_option maxHeartbeats 4000000 in
theorem ct_law {a0 : Array Value} {Z : State} (hw : ∀ d ∈ tables_1, d.before a0 Z = true) (l : Launch) (nar kn : Bool) (hnr : nar = false) (h0 : Heap) (p0 : Int32) (p1 : Int32) (p2 : Int32) (p3 : Int32) (cz : Int32) (O : Sta Z Z.heap "java/lang/String" "COMPACT_STRINGS" "Z" (.int cz)) (hcz : ¬ cz = 0) :
    Ct l Z EL1 (⟨"com/example/entity_context/entitycontext/query/NumericLiteralDescribePinLaw", "law", "(IIII)Z"⟩ : MethodName) code 12 ret ({ frames := 7, cells := 48, slots := 10432, locals := 176 } : Room) #[.int p0, .int p1, .int p2, .int p3] h0 [] nar kn (fun v h sn => v = some (.int 1) ∧ sn = []) := by
  refine Ct.intro (plainFor_of_name pn_com_example_entity_context_entitycontext_query_NumericLiteralDescribePinLaw) (ew hw) (ef_at p0 p1 p2 p3) ?_
  intro x hl hn0 hkn hsf hh H0
  have hnar : x.nar = false := hn0.trans hnr
  have H0 : Hr x b_at Z EL1 0 0 h0 [] 0 #[.val (.int p0), .val (.int p1), .val (.int p2), .val (.int p3), .unset, .unset, .unset, .unset, .unset, .unset, .unset, .unset] [] := H0
  obtain ⟨k, hk⟩ : ∃ z, (p0 &&& (2147483647 : Int32)) % (6 : Int32) = z := ⟨_, rfl⟩
  obtain ⟨cn, hcn⟩ : ∃ z, (p2 &&& (255 : Int32)).toUInt32.toUInt16.toUInt32.toInt32 = z := ⟨_, rfl⟩
  have m1 := hk ▸ mod6 p0
  have rc : ¬ cn < 0 ∧ ¬ 255 < cn := hcn ▸ chr_rng p2
  have H1 : Hr x b_at Z EL1 0 0 h0 [] 1 #[.val (.int p0), .val (.int p1), .val (.int p2), .val (.int p3), .unset, .unset, .unset, .unset, .unset, .unset, .unset, .unset] [.int p0] := H0.iloadN at_0
  have H2 : Hr x b_at Z EL1 0 0 h0 [] 3 #[.val (.int p0), .val (.int p1), .val (.int p2), .val (.int p3), .unset, .unset, .unset, .unset, .unset, .unset, .unset, .unset] [.int (2147483647 : Int32), .int p0] := H1.ldcI (w0 hw) at_1
  have H3 : Hr x b_at Z EL1 0 0 h0 [] 4 #[.val (.int p0), .val (.int p1), .val (.int p2), .val (.int p3), .unset, .unset, .unset, .unset, .unset, .unset, .unset, .unset] [.int (p0 &&& (2147483647 : Int32))] := H2.iand at_3
  have H4 : Hr x b_at Z EL1 0 0 h0 [] 6 #[.val (.int p0), .val (.int p1), .val (.int p2), .val (.int p3), .unset, .unset, .unset, .unset, .unset, .unset, .unset, .unset] [.int (6 : Int32), .int (p0 &&& (2147483647 : Int32))] := H3.bipush at_4
  have H5 : Hr x b_at Z EL1 0 0 h0 [] 7 #[.val (.int p0), .val (.int p1), .val (.int p2), .val (.int p3), .unset, .unset, .unset, .unset, .unset, .unset, .unset, .unset] [.int k] := H4.irem at_6 (by decide) (hv := hk)
  have H6 : Hr x b_at Z EL1 0 0 h0 [] 9 #[.val (.int p0), .val (.int p1), .val (.int p2), .val (.int p3), .val (.int k), .unset, .unset, .unset, .unset, .unset, .unset, .unset] [] := H5.istore at_7
  have H7 : Hr x b_at Z EL1 0 0 h0 [] 10 #[.val (.int p0), .val (.int p1), .val (.int p2), .val (.int p3), .val (.int k), .unset, .unset, .unset, .unset, .unset, .unset, .unset] [.int p1] := H6.iloadN at_9
  have H8 : Hr x b_at Z EL1 0 0 h0 [] 11 #[.val (.int p0), .val (.int p1), .val (.int p2), .val (.int p3), .val (.int k), .unset, .unset, .unset, .unset, .unset, .unset, .unset] [.int (1 : Int32), .int p1] := H7.iconst at_10
  have H9 : Hr x b_at Z EL1 0 0 h0 [] 12 #[.val (.int p0), .val (.int p1), .val (.int p2), .val (.int p3), .val (.int k), .unset, .unset, .unset, .unset, .unset, .unset, .unset] [.int (p1 &&& (1 : Int32))] := H8.iand at_11
  obtain ⟨ap, hap, ha1, ha4, H10⟩ : ∃ ap : Int32, (ap = 0 ∨ ap = 1) ∧ (k = 1 → ap = 0) ∧ (k = 4 → ap = 0) ∧ Hr x b_at Z EL1 0 0 h0 [] 37 #[.val (.int p0), .val (.int p1), .val (.int p2), .val (.int p3), .val (.int k), .val (.int ap), .unset, .unset, .unset, .unset, .unset, .unset] [] := by
    by_cases qb : (p1 &&& (1 : Int32)) = 0
    · have z10 := qb
      have H11 : Hr x b_at Z EL1 0 0 h0 [] 19 #[.val (.int p0), .val (.int p1), .val (.int p2), .val (.int p3), .val (.int k), .unset, .unset, .unset, .unset, .unset, .unset, .unset] [] := H9.ifT at_12 (XT.i0_eq_t qb)
      have H12 : Hr x b_at Z EL1 0 0 h0 [] 20 #[.val (.int p0), .val (.int p1), .val (.int p2), .val (.int p3), .val (.int k), .unset, .unset, .unset, .unset, .unset, .unset, .unset] [.int (0 : Int32)] := H11.iconst at_19
      have H13 : Hr x b_at Z EL1 0 0 h0 [] 22 #[.val (.int p0), .val (.int p1), .val (.int p2), .val (.int p3), .val (.int k), .val (.int (0 : Int32)), .unset, .unset, .unset, .unset, .unset, .unset] [] := H12.istore at_20
      have H14 : Hr x b_at Z EL1 0 0 h0 [] 24 #[.val (.int p0), .val (.int p1), .val (.int p2), .val (.int p3), .val (.int k), .val (.int (0 : Int32)), .unset, .unset, .unset, .unset, .unset, .unset] [.int k] := H13.iload at_22
      have H15 : Hr x b_at Z EL1 0 0 h0 [] 25 #[.val (.int p0), .val (.int p1), .val (.int p2), .val (.int p3), .val (.int k), .val (.int (0 : Int32)), .unset, .unset, .unset, .unset, .unset, .unset] [.int (1 : Int32), .int k] := H14.iconst at_24
      by_cases q1 : k = 1
      · have z15 := q1
        have H16 : Hr x b_at Z EL1 0 0 h0 [] 34 #[.val (.int p0), .val (.int p1), .val (.int p2), .val (.int p3), .val (.int k), .val (.int (0 : Int32)), .unset, .unset, .unset, .unset, .unset, .unset] [] := H15.icmpT at_25 (XT.ii_eq_t q1)
        have H17 : Hr x b_at Z EL1 0 0 h0 [] 35 #[.val (.int p0), .val (.int p1), .val (.int p2), .val (.int p3), .val (.int k), .val (.int (0 : Int32)), .unset, .unset, .unset, .unset, .unset, .unset] [.int (0 : Int32)] := H16.iconst at_34
        have H18 : Hr x b_at Z EL1 0 0 h0 [] 37 #[.val (.int p0), .val (.int p1), .val (.int p2), .val (.int p3), .val (.int k), .val (.int (0 : Int32)), .unset, .unset, .unset, .unset, .unset, .unset] [] := H17.istore at_35
        exact ⟨_, Or.inl rfl, fun _ => rfl, fun _ => rfl, H18⟩
      · have z18 := q1
        have H19 : Hr x b_at Z EL1 0 0 h0 [] 28 #[.val (.int p0), .val (.int p1), .val (.int p2), .val (.int p3), .val (.int k), .val (.int (0 : Int32)), .unset, .unset, .unset, .unset, .unset, .unset] [] := H15.icmpF at_25 (XT.ii_eq_f q1)
        have H20 : Hr x b_at Z EL1 0 0 h0 [] 30 #[.val (.int p0), .val (.int p1), .val (.int p2), .val (.int p3), .val (.int k), .val (.int (0 : Int32)), .unset, .unset, .unset, .unset, .unset, .unset] [.int k] := H19.iload at_28
        have H21 : Hr x b_at Z EL1 0 0 h0 [] 31 #[.val (.int p0), .val (.int p1), .val (.int p2), .val (.int p3), .val (.int k), .val (.int (0 : Int32)), .unset, .unset, .unset, .unset, .unset, .unset] [.int (4 : Int32), .int k] := H20.iconst at_30
        by_cases q4 : k = 4
        · have z21 := q4
          have H22 : Hr x b_at Z EL1 0 0 h0 [] 34 #[.val (.int p0), .val (.int p1), .val (.int p2), .val (.int p3), .val (.int k), .val (.int (0 : Int32)), .unset, .unset, .unset, .unset, .unset, .unset] [] := H21.icmpF at_31 (XT.ii_ne_f q4)
          have H23 : Hr x b_at Z EL1 0 0 h0 [] 35 #[.val (.int p0), .val (.int p1), .val (.int p2), .val (.int p3), .val (.int k), .val (.int (0 : Int32)), .unset, .unset, .unset, .unset, .unset, .unset] [.int (0 : Int32)] := H22.iconst at_34
          have H24 : Hr x b_at Z EL1 0 0 h0 [] 37 #[.val (.int p0), .val (.int p1), .val (.int p2), .val (.int p3), .val (.int k), .val (.int (0 : Int32)), .unset, .unset, .unset, .unset, .unset, .unset] [] := H23.istore at_35
          exact ⟨_, Or.inl rfl, fun _ => rfl, fun _ => rfl, H24⟩
        · have z24 := q4
          have H25 : Hr x b_at Z EL1 0 0 h0 [] 37 #[.val (.int p0), .val (.int p1), .val (.int p2), .val (.int p3), .val (.int k), .val (.int (0 : Int32)), .unset, .unset, .unset, .unset, .unset, .unset] [] := H21.icmpT at_31 (XT.ii_ne_t q4)
          exact ⟨_, Or.inl rfl, fun q => absurd q q1, fun q => absurd q q4, H25⟩
    · have z25 := qb
      have H26 : Hr x b_at Z EL1 0 0 h0 [] 15 #[.val (.int p0), .val (.int p1), .val (.int p2), .val (.int p3), .val (.int k), .unset, .unset, .unset, .unset, .unset, .unset, .unset] [] := H9.ifF at_12 (XT.i0_eq_f qb)
      have H27 : Hr x b_at Z EL1 0 0 h0 [] 16 #[.val (.int p0), .val (.int p1), .val (.int p2), .val (.int p3), .val (.int k), .unset, .unset, .unset, .unset, .unset, .unset, .unset] [.int (1 : Int32)] := H26.iconst at_15
      have H28 : Hr x b_at Z EL1 0 0 h0 [] 20 #[.val (.int p0), .val (.int p1), .val (.int p2), .val (.int p3), .val (.int k), .unset, .unset, .unset, .unset, .unset, .unset, .unset] [.int (1 : Int32)] := H27.goto at_16
      have H29 : Hr x b_at Z EL1 0 0 h0 [] 22 #[.val (.int p0), .val (.int p1), .val (.int p2), .val (.int p3), .val (.int k), .val (.int (1 : Int32)), .unset, .unset, .unset, .unset, .unset, .unset] [] := H28.istore at_20
      have H30 : Hr x b_at Z EL1 0 0 h0 [] 24 #[.val (.int p0), .val (.int p1), .val (.int p2), .val (.int p3), .val (.int k), .val (.int (1 : Int32)), .unset, .unset, .unset, .unset, .unset, .unset] [.int k] := H29.iload at_22
      have H31 : Hr x b_at Z EL1 0 0 h0 [] 25 #[.val (.int p0), .val (.int p1), .val (.int p2), .val (.int p3), .val (.int k), .val (.int (1 : Int32)), .unset, .unset, .unset, .unset, .unset, .unset] [.int (1 : Int32), .int k] := H30.iconst at_24
      by_cases q1 : k = 1
      · have z31 := q1
        have H32 : Hr x b_at Z EL1 0 0 h0 [] 34 #[.val (.int p0), .val (.int p1), .val (.int p2), .val (.int p3), .val (.int k), .val (.int (1 : Int32)), .unset, .unset, .unset, .unset, .unset, .unset] [] := H31.icmpT at_25 (XT.ii_eq_t q1)
        have H33 : Hr x b_at Z EL1 0 0 h0 [] 35 #[.val (.int p0), .val (.int p1), .val (.int p2), .val (.int p3), .val (.int k), .val (.int (1 : Int32)), .unset, .unset, .unset, .unset, .unset, .unset] [.int (0 : Int32)] := H32.iconst at_34
        have H34 : Hr x b_at Z EL1 0 0 h0 [] 37 #[.val (.int p0), .val (.int p1), .val (.int p2), .val (.int p3), .val (.int k), .val (.int (0 : Int32)), .unset, .unset, .unset, .unset, .unset, .unset] [] := H33.istore at_35
        exact ⟨_, Or.inl rfl, fun _ => rfl, fun _ => rfl, H34⟩
      · have z34 := q1
        have H35 : Hr x b_at Z EL1 0 0 h0 [] 28 #[.val (.int p0), .val (.int p1), .val (.int p2), .val (.int p3), .val (.int k), .val (.int (1 : Int32)), .unset, .unset, .unset, .unset, .unset, .unset] [] := H31.icmpF at_25 (XT.ii_eq_f q1)
        have H36 : Hr x b_at Z EL1 0 0 h0 [] 30 #[.val (.int p0), .val (.int p1), .val (.int p2), .val (.int p3), .val (.int k), .val (.int (1 : Int32)), .unset, .unset, .unset, .unset, .unset, .unset] [.int k] := H35.iload at_28
        have H37 : Hr x b_at Z EL1 0 0 h0 [] 31 #[.val (.int p0), .val (.int p1), .val (.int p2), .val (.int p3), .val (.int k), .val (.int (1 : Int32)), .unset, .unset, .unset, .unset, .unset, .unset] [.int (4 : Int32), .int k] := H36.iconst at_30
        by_cases q4 : k = 4
        · have z37 := q4
          have H38 : Hr x b_at Z EL1 0 0 h0 [] 34 #[.val (.int p0), .val (.int p1), .val (.int p2), .val (.int p3), .val (.int k), .val (.int (1 : Int32)), .unset, .unset, .unset, .unset, .unset, .unset] [] := H37.icmpF at_31 (XT.ii_ne_f q4)
          have H39 : Hr x b_at Z EL1 0 0 h0 [] 35 #[.val (.int p0), .val (.int p1), .val (.int p2), .val (.int p3), .val (.int k), .val (.int (1 : Int32)), .unset, .unset, .unset, .unset, .unset, .unset] [.int (0 : Int32)] := H38.iconst at_34
          have H40 : Hr x b_at Z EL1 0 0 h0 [] 37 #[.val (.int p0), .val (.int p1), .val (.int p2), .val (.int p3), .val (.int k), .val (.int (0 : Int32)), .unset, .unset, .unset, .unset, .unset, .unset] [] := H39.istore at_35
          exact ⟨_, Or.inl rfl, fun _ => rfl, fun _ => rfl, H40⟩
        · have z40 := q4
          have H41 : Hr x b_at Z EL1 0 0 h0 [] 37 #[.val (.int p0), .val (.int p1), .val (.int p2), .val (.int p3), .val (.int k), .val (.int (1 : Int32)), .unset, .unset, .unset, .unset, .unset, .unset] [] := H37.icmpT at_31 (XT.ii_ne_t q4)
          exact ⟨_, Or.inr rfl, fun q => absurd q q1, fun q => absurd q q4, H41⟩
  obtain ⟨h1, a, F1, H42⟩ : ∃ (h1 : Heap) (a : Addr), Ar Z h1 a .char ((sfx k).map Value.int) ∧ Hr x b_at Z EL1 1 2 h1 [] 146 #[.val (.int p0), .val (.int p1), .val (.int p2), .val (.int p3), .val (.int k), .val (.int ap), .val (.ref a), .unset, .unset, .unset, .unset, .unset] [] := by
    have H43 : Hr x b_at Z EL1 0 0 h0 [] 39 #[.val (.int p0), .val (.int p1), .val (.int p2), .val (.int p3), .val (.int k), .val (.int ap), .unset, .unset, .unset, .unset, .unset, .unset] [.int k] := H10.iload at_37
    by_cases q0 : k = 0
    · have z43 := q0
      have H44 : Hr x b_at Z EL1 0 0 h0 [] 42 #[.val (.int p0), .val (.int p1), .val (.int p2), .val (.int p3), .val (.int k), .val (.int ap), .unset, .unset, .unset, .unset, .unset, .unset] [] := H43.ifF at_39 (XT.i0_ne_f q0)
      have H45 : Hr x b_at Z EL1 0 0 h0 [] 43 #[.val (.int p0), .val (.int p1), .val (.int p2), .val (.int p3), .val (.int k), .val (.int ap), .unset, .unset, .unset, .unset, .unset, .unset] [.int (0 : Int32)] := H44.iconst at_42
      obtain ⟨hn0, En0, F0, H46⟩ := H45.newarray (aty := .char) (cap := 0) (w1 hw) at_43 (by decide) (by decide) (by decide) (by first | decide | (simp [b_at, Bx.R]; done) | (simp [b_at, Bx.R]; omega)) (by first | decide | (simp [b_at, Bx.R]; done) | (simp [b_at, Bx.R]; omega))
      obtain ⟨a0, g_a0⟩ : ∃ z, z = h0.size := ⟨_, rfl⟩
      rw [← g_a0] at F0 H46
      have F0 : Ar Z hn0 a0 .char (List.replicate 0 (.int 0)) := F0
      have H46 : Hr x b_at Z EL1 1 0 hn0 [a0] 45 #[.val (.int p0), .val (.int p1), .val (.int p2), .val (.int p3), .val (.int k), .val (.int ap), .unset, .unset, .unset, .unset, .unset, .unset] [.ref a0] := H46
      have H47 : Hr x b_at Z EL1 1 0 hn0 [a0] 47 #[.val (.int p0), .val (.int p1), .val (.int p2), .val (.int p3), .val (.int k), .val (.int ap), .val (.ref a0), .unset, .unset, .unset, .unset, .unset] [] := H46.astore at_45
      have H48 : Hr x b_at Z EL1 1 0 hn0 [a0] 146 #[.val (.int p0), .val (.int p1), .val (.int p2), .val (.int p3), .val (.int k), .val (.int ap), .val (.ref a0), .unset, .unset, .unset, .unset, .unset] [] := H47.goto at_47
      exact ⟨_, _, by rw [show sfx k = [] by simp [sfx, q0]]; exact F0, H48.weaken (by decide) (by decide) (fun _ q => nomatch q)⟩
    · have z48 := q0
      have H49 : Hr x b_at Z EL1 0 0 h0 [] 50 #[.val (.int p0), .val (.int p1), .val (.int p2), .val (.int p3), .val (.int k), .val (.int ap), .unset, .unset, .unset, .unset, .unset, .unset] [] := H43.ifT at_39 (XT.i0_ne_t q0)
      have H50 : Hr x b_at Z EL1 0 0 h0 [] 52 #[.val (.int p0), .val (.int p1), .val (.int p2), .val (.int p3), .val (.int k), .val (.int ap), .unset, .unset, .unset, .unset, .unset, .unset] [.int k] := H49.iload at_50
      have H51 : Hr x b_at Z EL1 0 0 h0 [] 53 #[.val (.int p0), .val (.int p1), .val (.int p2), .val (.int p3), .val (.int k), .val (.int ap), .unset, .unset, .unset, .unset, .unset, .unset] [.int (1 : Int32), .int k] := H50.iconst at_52
      by_cases q1 : k = 1
      · have z51 := q1
        have H52 : Hr x b_at Z EL1 0 0 h0 [] 56 #[.val (.int p0), .val (.int p1), .val (.int p2), .val (.int p3), .val (.int k), .val (.int ap), .unset, .unset, .unset, .unset, .unset, .unset] [] := H51.icmpF at_53 (XT.ii_ne_f q1)
        have H53 : Hr x b_at Z EL1 0 0 h0 [] 57 #[.val (.int p0), .val (.int p1), .val (.int p2), .val (.int p3), .val (.int k), .val (.int ap), .unset, .unset, .unset, .unset, .unset, .unset] [.int (1 : Int32)] := H52.iconst at_56
        obtain ⟨hn1, En1, F1, H54⟩ := H53.newarray (aty := .char) (cap := 1) (w1 hw) at_57 (by decide) (by decide) (by decide) (by first | decide | (simp [b_at, Bx.R]; done) | (simp [b_at, Bx.R]; omega)) (by first | decide | (simp [b_at, Bx.R]; done) | (simp [b_at, Bx.R]; omega))
        obtain ⟨a1, g_a1⟩ : ∃ z, z = h0.size := ⟨_, rfl⟩
        rw [← g_a1] at F1 H54
        have F1 : Ar Z hn1 a1 .char (List.replicate 1 (.int 0)) := F1
        have H54 : Hr x b_at Z EL1 1 1 hn1 [a1] 59 #[.val (.int p0), .val (.int p1), .val (.int p2), .val (.int p3), .val (.int k), .val (.int ap), .unset, .unset, .unset, .unset, .unset, .unset] [.ref a1] := H54
        have H55 : Hr x b_at Z EL1 1 1 hn1 [a1] 60 #[.val (.int p0), .val (.int p1), .val (.int p2), .val (.int p3), .val (.int k), .val (.int ap), .unset, .unset, .unset, .unset, .unset, .unset] [.ref a1, .ref a1] := H54.dup at_59
        have H56 : Hr x b_at Z EL1 1 1 hn1 [a1] 61 #[.val (.int p0), .val (.int p1), .val (.int p2), .val (.int p3), .val (.int k), .val (.int ap), .unset, .unset, .unset, .unset, .unset, .unset] [.int (0 : Int32), .ref a1, .ref a1] := H55.iconst at_60
        have H57 : Hr x b_at Z EL1 1 1 hn1 [a1] 63 #[.val (.int p0), .val (.int p1), .val (.int p2), .val (.int p3), .val (.int k), .val (.int ap), .unset, .unset, .unset, .unset, .unset, .unset] [.int (108 : Int32), .int (0 : Int32), .ref a1, .ref a1] := H56.bipush at_61
        obtain ⟨hs10, Ws10, H58⟩ := H57.castore (by simp) F1 at_63 (i := 0) rfl (by simp) (w := (108 : Int32)) (hw := (by decide))
        have H58 : Hr x b_at Z EL1 1 1 hs10 [a1] 64 #[.val (.int p0), .val (.int p1), .val (.int p2), .val (.int p3), .val (.int k), .val (.int ap), .unset, .unset, .unset, .unset, .unset, .unset] [.ref a1] := H58
        have F1 : Ar Z hs10 a1 .char [.int (108 : Int32)] := F1.set Ws10
        have H59 : Hr x b_at Z EL1 1 1 hs10 [a1] 66 #[.val (.int p0), .val (.int p1), .val (.int p2), .val (.int p3), .val (.int k), .val (.int ap), .val (.ref a1), .unset, .unset, .unset, .unset, .unset] [] := H58.astore at_64
        have H60 : Hr x b_at Z EL1 1 1 hs10 [a1] 146 #[.val (.int p0), .val (.int p1), .val (.int p2), .val (.int p3), .val (.int k), .val (.int ap), .val (.ref a1), .unset, .unset, .unset, .unset, .unset] [] := H59.goto at_66
        exact ⟨_, _, by rw [show sfx k = [108] by simp [sfx, q0, q1]]; exact F1, H60.weaken (by decide) (by decide) (fun _ q => nomatch q)⟩
      · have z60 := q1
        have H61 : Hr x b_at Z EL1 0 0 h0 [] 69 #[.val (.int p0), .val (.int p1), .val (.int p2), .val (.int p3), .val (.int k), .val (.int ap), .unset, .unset, .unset, .unset, .unset, .unset] [] := H51.icmpT at_53 (XT.ii_ne_t q1)
        have H62 : Hr x b_at Z EL1 0 0 h0 [] 71 #[.val (.int p0), .val (.int p1), .val (.int p2), .val (.int p3), .val (.int k), .val (.int ap), .unset, .unset, .unset, .unset, .unset, .unset] [.int k] := H61.iload at_69
        have H63 : Hr x b_at Z EL1 0 0 h0 [] 72 #[.val (.int p0), .val (.int p1), .val (.int p2), .val (.int p3), .val (.int k), .val (.int ap), .unset, .unset, .unset, .unset, .unset, .unset] [.int (2 : Int32), .int k] := H62.iconst at_71
        by_cases q2 : k = 2
        · have z63 := q2
          have H64 : Hr x b_at Z EL1 0 0 h0 [] 75 #[.val (.int p0), .val (.int p1), .val (.int p2), .val (.int p3), .val (.int k), .val (.int ap), .unset, .unset, .unset, .unset, .unset, .unset] [] := H63.icmpF at_72 (XT.ii_ne_f q2)
          have H65 : Hr x b_at Z EL1 0 0 h0 [] 76 #[.val (.int p0), .val (.int p1), .val (.int p2), .val (.int p3), .val (.int k), .val (.int ap), .unset, .unset, .unset, .unset, .unset, .unset] [.int (1 : Int32)] := H64.iconst at_75
          obtain ⟨hn2, En2, F2, H66⟩ := H65.newarray (aty := .char) (cap := 1) (w1 hw) at_76 (by decide) (by decide) (by decide) (by first | decide | (simp [b_at, Bx.R]; done) | (simp [b_at, Bx.R]; omega)) (by first | decide | (simp [b_at, Bx.R]; done) | (simp [b_at, Bx.R]; omega))
          obtain ⟨a2, g_a2⟩ : ∃ z, z = h0.size := ⟨_, rfl⟩
          rw [← g_a2] at F2 H66
          have F2 : Ar Z hn2 a2 .char (List.replicate 1 (.int 0)) := F2
          have H66 : Hr x b_at Z EL1 1 1 hn2 [a2] 78 #[.val (.int p0), .val (.int p1), .val (.int p2), .val (.int p3), .val (.int k), .val (.int ap), .unset, .unset, .unset, .unset, .unset, .unset] [.ref a2] := H66
          have H67 : Hr x b_at Z EL1 1 1 hn2 [a2] 79 #[.val (.int p0), .val (.int p1), .val (.int p2), .val (.int p3), .val (.int k), .val (.int ap), .unset, .unset, .unset, .unset, .unset, .unset] [.ref a2, .ref a2] := H66.dup at_78
          have H68 : Hr x b_at Z EL1 1 1 hn2 [a2] 80 #[.val (.int p0), .val (.int p1), .val (.int p2), .val (.int p3), .val (.int k), .val (.int ap), .unset, .unset, .unset, .unset, .unset, .unset] [.int (0 : Int32), .ref a2, .ref a2] := H67.iconst at_79
          have H69 : Hr x b_at Z EL1 1 1 hn2 [a2] 82 #[.val (.int p0), .val (.int p1), .val (.int p2), .val (.int p3), .val (.int k), .val (.int ap), .unset, .unset, .unset, .unset, .unset, .unset] [.int (100 : Int32), .int (0 : Int32), .ref a2, .ref a2] := H68.bipush at_80
          obtain ⟨hs20, Ws20, H70⟩ := H69.castore (by simp) F2 at_82 (i := 0) rfl (by simp) (w := (100 : Int32)) (hw := (by decide))
          have H70 : Hr x b_at Z EL1 1 1 hs20 [a2] 83 #[.val (.int p0), .val (.int p1), .val (.int p2), .val (.int p3), .val (.int k), .val (.int ap), .unset, .unset, .unset, .unset, .unset, .unset] [.ref a2] := H70
          have F2 : Ar Z hs20 a2 .char [.int (100 : Int32)] := F2.set Ws20
          have H71 : Hr x b_at Z EL1 1 1 hs20 [a2] 85 #[.val (.int p0), .val (.int p1), .val (.int p2), .val (.int p3), .val (.int k), .val (.int ap), .val (.ref a2), .unset, .unset, .unset, .unset, .unset] [] := H70.astore at_83
          have H72 : Hr x b_at Z EL1 1 1 hs20 [a2] 146 #[.val (.int p0), .val (.int p1), .val (.int p2), .val (.int p3), .val (.int k), .val (.int ap), .val (.ref a2), .unset, .unset, .unset, .unset, .unset] [] := H71.goto at_85
          exact ⟨_, _, by rw [show sfx k = [100] by simp [sfx, q0, q1, q2]]; exact F2, H72.weaken (by decide) (by decide) (fun _ q => nomatch q)⟩
        · have z72 := q2
          have H73 : Hr x b_at Z EL1 0 0 h0 [] 88 #[.val (.int p0), .val (.int p1), .val (.int p2), .val (.int p3), .val (.int k), .val (.int ap), .unset, .unset, .unset, .unset, .unset, .unset] [] := H63.icmpT at_72 (XT.ii_ne_t q2)
          have H74 : Hr x b_at Z EL1 0 0 h0 [] 90 #[.val (.int p0), .val (.int p1), .val (.int p2), .val (.int p3), .val (.int k), .val (.int ap), .unset, .unset, .unset, .unset, .unset, .unset] [.int k] := H73.iload at_88
          have H75 : Hr x b_at Z EL1 0 0 h0 [] 91 #[.val (.int p0), .val (.int p1), .val (.int p2), .val (.int p3), .val (.int k), .val (.int ap), .unset, .unset, .unset, .unset, .unset, .unset] [.int (3 : Int32), .int k] := H74.iconst at_90
          by_cases q3 : k = 3
          · have z75 := q3
            have H76 : Hr x b_at Z EL1 0 0 h0 [] 94 #[.val (.int p0), .val (.int p1), .val (.int p2), .val (.int p3), .val (.int k), .val (.int ap), .unset, .unset, .unset, .unset, .unset, .unset] [] := H75.icmpF at_91 (XT.ii_ne_f q3)
            have H77 : Hr x b_at Z EL1 0 0 h0 [] 95 #[.val (.int p0), .val (.int p1), .val (.int p2), .val (.int p3), .val (.int k), .val (.int ap), .unset, .unset, .unset, .unset, .unset, .unset] [.int (1 : Int32)] := H76.iconst at_94
            obtain ⟨hn3, En3, F3, H78⟩ := H77.newarray (aty := .char) (cap := 1) (w1 hw) at_95 (by decide) (by decide) (by decide) (by first | decide | (simp [b_at, Bx.R]; done) | (simp [b_at, Bx.R]; omega)) (by first | decide | (simp [b_at, Bx.R]; done) | (simp [b_at, Bx.R]; omega))
            obtain ⟨a3, g_a3⟩ : ∃ z, z = h0.size := ⟨_, rfl⟩
            rw [← g_a3] at F3 H78
            have F3 : Ar Z hn3 a3 .char (List.replicate 1 (.int 0)) := F3
            have H78 : Hr x b_at Z EL1 1 1 hn3 [a3] 97 #[.val (.int p0), .val (.int p1), .val (.int p2), .val (.int p3), .val (.int k), .val (.int ap), .unset, .unset, .unset, .unset, .unset, .unset] [.ref a3] := H78
            have H79 : Hr x b_at Z EL1 1 1 hn3 [a3] 98 #[.val (.int p0), .val (.int p1), .val (.int p2), .val (.int p3), .val (.int k), .val (.int ap), .unset, .unset, .unset, .unset, .unset, .unset] [.ref a3, .ref a3] := H78.dup at_97
            have H80 : Hr x b_at Z EL1 1 1 hn3 [a3] 99 #[.val (.int p0), .val (.int p1), .val (.int p2), .val (.int p3), .val (.int k), .val (.int ap), .unset, .unset, .unset, .unset, .unset, .unset] [.int (0 : Int32), .ref a3, .ref a3] := H79.iconst at_98
            have H81 : Hr x b_at Z EL1 1 1 hn3 [a3] 101 #[.val (.int p0), .val (.int p1), .val (.int p2), .val (.int p3), .val (.int k), .val (.int ap), .unset, .unset, .unset, .unset, .unset, .unset] [.int (102 : Int32), .int (0 : Int32), .ref a3, .ref a3] := H80.bipush at_99
            obtain ⟨hs30, Ws30, H82⟩ := H81.castore (by simp) F3 at_101 (i := 0) rfl (by simp) (w := (102 : Int32)) (hw := (by decide))
            have H82 : Hr x b_at Z EL1 1 1 hs30 [a3] 102 #[.val (.int p0), .val (.int p1), .val (.int p2), .val (.int p3), .val (.int k), .val (.int ap), .unset, .unset, .unset, .unset, .unset, .unset] [.ref a3] := H82
            have F3 : Ar Z hs30 a3 .char [.int (102 : Int32)] := F3.set Ws30
            have H83 : Hr x b_at Z EL1 1 1 hs30 [a3] 104 #[.val (.int p0), .val (.int p1), .val (.int p2), .val (.int p3), .val (.int k), .val (.int ap), .val (.ref a3), .unset, .unset, .unset, .unset, .unset] [] := H82.astore at_102
            have H84 : Hr x b_at Z EL1 1 1 hs30 [a3] 146 #[.val (.int p0), .val (.int p1), .val (.int p2), .val (.int p3), .val (.int k), .val (.int ap), .val (.ref a3), .unset, .unset, .unset, .unset, .unset] [] := H83.goto at_104
            exact ⟨_, _, by rw [show sfx k = [102] by simp [sfx, q0, q1, q2, q3]]; exact F3, H84.weaken (by decide) (by decide) (fun _ q => nomatch q)⟩
          · have z84 := q3
            have H85 : Hr x b_at Z EL1 0 0 h0 [] 107 #[.val (.int p0), .val (.int p1), .val (.int p2), .val (.int p3), .val (.int k), .val (.int ap), .unset, .unset, .unset, .unset, .unset, .unset] [] := H75.icmpT at_91 (XT.ii_ne_t q3)
            have H86 : Hr x b_at Z EL1 0 0 h0 [] 109 #[.val (.int p0), .val (.int p1), .val (.int p2), .val (.int p3), .val (.int k), .val (.int ap), .unset, .unset, .unset, .unset, .unset, .unset] [.int k] := H85.iload at_107
            have H87 : Hr x b_at Z EL1 0 0 h0 [] 110 #[.val (.int p0), .val (.int p1), .val (.int p2), .val (.int p3), .val (.int k), .val (.int ap), .unset, .unset, .unset, .unset, .unset, .unset] [.int (4 : Int32), .int k] := H86.iconst at_109
            by_cases q4 : k = 4
            · have z87 := q4
              have H88 : Hr x b_at Z EL1 0 0 h0 [] 113 #[.val (.int p0), .val (.int p1), .val (.int p2), .val (.int p3), .val (.int k), .val (.int ap), .unset, .unset, .unset, .unset, .unset, .unset] [] := H87.icmpF at_110 (XT.ii_ne_f q4)
              have H89 : Hr x b_at Z EL1 0 0 h0 [] 114 #[.val (.int p0), .val (.int p1), .val (.int p2), .val (.int p3), .val (.int k), .val (.int ap), .unset, .unset, .unset, .unset, .unset, .unset] [.int (2 : Int32)] := H88.iconst at_113
              obtain ⟨hn4, En4, F4, H90⟩ := H89.newarray (aty := .char) (cap := 2) (w1 hw) at_114 (by decide) (by decide) (by decide) (by first | decide | (simp [b_at, Bx.R]; done) | (simp [b_at, Bx.R]; omega)) (by first | decide | (simp [b_at, Bx.R]; done) | (simp [b_at, Bx.R]; omega))
              obtain ⟨a4, g_a4⟩ : ∃ z, z = h0.size := ⟨_, rfl⟩
              rw [← g_a4] at F4 H90
              have F4 : Ar Z hn4 a4 .char (List.replicate 2 (.int 0)) := F4
              have H90 : Hr x b_at Z EL1 1 2 hn4 [a4] 116 #[.val (.int p0), .val (.int p1), .val (.int p2), .val (.int p3), .val (.int k), .val (.int ap), .unset, .unset, .unset, .unset, .unset, .unset] [.ref a4] := H90
              have H91 : Hr x b_at Z EL1 1 2 hn4 [a4] 117 #[.val (.int p0), .val (.int p1), .val (.int p2), .val (.int p3), .val (.int k), .val (.int ap), .unset, .unset, .unset, .unset, .unset, .unset] [.ref a4, .ref a4] := H90.dup at_116
              have H92 : Hr x b_at Z EL1 1 2 hn4 [a4] 118 #[.val (.int p0), .val (.int p1), .val (.int p2), .val (.int p3), .val (.int k), .val (.int ap), .unset, .unset, .unset, .unset, .unset, .unset] [.int (0 : Int32), .ref a4, .ref a4] := H91.iconst at_117
              have H93 : Hr x b_at Z EL1 1 2 hn4 [a4] 120 #[.val (.int p0), .val (.int p1), .val (.int p2), .val (.int p3), .val (.int k), .val (.int ap), .unset, .unset, .unset, .unset, .unset, .unset] [.int (98 : Int32), .int (0 : Int32), .ref a4, .ref a4] := H92.bipush at_118
              obtain ⟨hs40, Ws40, H94⟩ := H93.castore (by simp) F4 at_120 (i := 0) rfl (by simp) (w := (98 : Int32)) (hw := (by decide))
              have H94 : Hr x b_at Z EL1 1 2 hs40 [a4] 121 #[.val (.int p0), .val (.int p1), .val (.int p2), .val (.int p3), .val (.int k), .val (.int ap), .unset, .unset, .unset, .unset, .unset, .unset] [.ref a4] := H94
              have F4 : Ar Z hs40 a4 .char [.int (98 : Int32), .int 0] := F4.set Ws40
              have H95 : Hr x b_at Z EL1 1 2 hs40 [a4] 122 #[.val (.int p0), .val (.int p1), .val (.int p2), .val (.int p3), .val (.int k), .val (.int ap), .unset, .unset, .unset, .unset, .unset, .unset] [.ref a4, .ref a4] := H94.dup at_121
              have H96 : Hr x b_at Z EL1 1 2 hs40 [a4] 123 #[.val (.int p0), .val (.int p1), .val (.int p2), .val (.int p3), .val (.int k), .val (.int ap), .unset, .unset, .unset, .unset, .unset, .unset] [.int (1 : Int32), .ref a4, .ref a4] := H95.iconst at_122
              have H97 : Hr x b_at Z EL1 1 2 hs40 [a4] 125 #[.val (.int p0), .val (.int p1), .val (.int p2), .val (.int p3), .val (.int k), .val (.int ap), .unset, .unset, .unset, .unset, .unset, .unset] [.int (105 : Int32), .int (1 : Int32), .ref a4, .ref a4] := H96.bipush at_123
              obtain ⟨hs41, Ws41, H98⟩ := H97.castore (by simp) F4 at_125 (i := 1) rfl (by simp) (w := (105 : Int32)) (hw := (by decide))
              have H98 : Hr x b_at Z EL1 1 2 hs41 [a4] 126 #[.val (.int p0), .val (.int p1), .val (.int p2), .val (.int p3), .val (.int k), .val (.int ap), .unset, .unset, .unset, .unset, .unset, .unset] [.ref a4] := H98
              have F4 : Ar Z hs41 a4 .char [.int (98 : Int32), .int (105 : Int32)] := F4.set Ws41
              have H99 : Hr x b_at Z EL1 1 2 hs41 [a4] 128 #[.val (.int p0), .val (.int p1), .val (.int p2), .val (.int p3), .val (.int k), .val (.int ap), .val (.ref a4), .unset, .unset, .unset, .unset, .unset] [] := H98.astore at_126
              have H100 : Hr x b_at Z EL1 1 2 hs41 [a4] 146 #[.val (.int p0), .val (.int p1), .val (.int p2), .val (.int p3), .val (.int k), .val (.int ap), .val (.ref a4), .unset, .unset, .unset, .unset, .unset] [] := H99.goto at_128
              exact ⟨_, _, by rw [show sfx k = [98, 105] by simp [sfx, q0, q1, q2, q3, q4]]; exact F4, H100.weaken (by decide) (by decide) (fun _ q => nomatch q)⟩
            · have z100 := q4
              have H101 : Hr x b_at Z EL1 0 0 h0 [] 131 #[.val (.int p0), .val (.int p1), .val (.int p2), .val (.int p3), .val (.int k), .val (.int ap), .unset, .unset, .unset, .unset, .unset, .unset] [] := H87.icmpT at_110 (XT.ii_ne_t q4)
              have H102 : Hr x b_at Z EL1 0 0 h0 [] 132 #[.val (.int p0), .val (.int p1), .val (.int p2), .val (.int p3), .val (.int k), .val (.int ap), .unset, .unset, .unset, .unset, .unset, .unset] [.int (2 : Int32)] := H101.iconst at_131
              obtain ⟨hn5, En5, F5, H103⟩ := H102.newarray (aty := .char) (cap := 2) (w1 hw) at_132 (by decide) (by decide) (by decide) (by first | decide | (simp [b_at, Bx.R]; done) | (simp [b_at, Bx.R]; omega)) (by first | decide | (simp [b_at, Bx.R]; done) | (simp [b_at, Bx.R]; omega))
              obtain ⟨a5, g_a5⟩ : ∃ z, z = h0.size := ⟨_, rfl⟩
              rw [← g_a5] at F5 H103
              have F5 : Ar Z hn5 a5 .char (List.replicate 2 (.int 0)) := F5
              have H103 : Hr x b_at Z EL1 1 2 hn5 [a5] 134 #[.val (.int p0), .val (.int p1), .val (.int p2), .val (.int p3), .val (.int k), .val (.int ap), .unset, .unset, .unset, .unset, .unset, .unset] [.ref a5] := H103
              have H104 : Hr x b_at Z EL1 1 2 hn5 [a5] 135 #[.val (.int p0), .val (.int p1), .val (.int p2), .val (.int p3), .val (.int k), .val (.int ap), .unset, .unset, .unset, .unset, .unset, .unset] [.ref a5, .ref a5] := H103.dup at_134
              have H105 : Hr x b_at Z EL1 1 2 hn5 [a5] 136 #[.val (.int p0), .val (.int p1), .val (.int p2), .val (.int p3), .val (.int k), .val (.int ap), .unset, .unset, .unset, .unset, .unset, .unset] [.int (0 : Int32), .ref a5, .ref a5] := H104.iconst at_135
              have H106 : Hr x b_at Z EL1 1 2 hn5 [a5] 138 #[.val (.int p0), .val (.int p1), .val (.int p2), .val (.int p3), .val (.int k), .val (.int ap), .unset, .unset, .unset, .unset, .unset, .unset] [.int (98 : Int32), .int (0 : Int32), .ref a5, .ref a5] := H105.bipush at_136
              obtain ⟨hs50, Ws50, H107⟩ := H106.castore (by simp) F5 at_138 (i := 0) rfl (by simp) (w := (98 : Int32)) (hw := (by decide))
              have H107 : Hr x b_at Z EL1 1 2 hs50 [a5] 139 #[.val (.int p0), .val (.int p1), .val (.int p2), .val (.int p3), .val (.int k), .val (.int ap), .unset, .unset, .unset, .unset, .unset, .unset] [.ref a5] := H107
              have F5 : Ar Z hs50 a5 .char [.int (98 : Int32), .int 0] := F5.set Ws50
              have H108 : Hr x b_at Z EL1 1 2 hs50 [a5] 140 #[.val (.int p0), .val (.int p1), .val (.int p2), .val (.int p3), .val (.int k), .val (.int ap), .unset, .unset, .unset, .unset, .unset, .unset] [.ref a5, .ref a5] := H107.dup at_139
              have H109 : Hr x b_at Z EL1 1 2 hs50 [a5] 141 #[.val (.int p0), .val (.int p1), .val (.int p2), .val (.int p3), .val (.int k), .val (.int ap), .unset, .unset, .unset, .unset, .unset, .unset] [.int (1 : Int32), .ref a5, .ref a5] := H108.iconst at_140
              have H110 : Hr x b_at Z EL1 1 2 hs50 [a5] 143 #[.val (.int p0), .val (.int p1), .val (.int p2), .val (.int p3), .val (.int k), .val (.int ap), .unset, .unset, .unset, .unset, .unset, .unset] [.int (100 : Int32), .int (1 : Int32), .ref a5, .ref a5] := H109.bipush at_141
              obtain ⟨hs51, Ws51, H111⟩ := H110.castore (by simp) F5 at_143 (i := 1) rfl (by simp) (w := (100 : Int32)) (hw := (by decide))
              have H111 : Hr x b_at Z EL1 1 2 hs51 [a5] 144 #[.val (.int p0), .val (.int p1), .val (.int p2), .val (.int p3), .val (.int k), .val (.int ap), .unset, .unset, .unset, .unset, .unset, .unset] [.ref a5] := H111
              have F5 : Ar Z hs51 a5 .char [.int (98 : Int32), .int (100 : Int32)] := F5.set Ws51
              have H112 : Hr x b_at Z EL1 1 2 hs51 [a5] 146 #[.val (.int p0), .val (.int p1), .val (.int p2), .val (.int p3), .val (.int k), .val (.int ap), .val (.ref a5), .unset, .unset, .unset, .unset, .unset] [] := H111.astore at_144
              exact ⟨_, _, by rw [show sfx k = [98, 100] by simp [sfx, q0, q1, q2, q3, q4]]; exact F5, H112.weaken (by decide) (by decide) (fun _ q => nomatch q)⟩
  have hlen : (sfx k).length ≤ 2 := by rcases m1 with q | q | q | q | q | q <;> subst q <;> decide
  have hrng : ∀ c ∈ sfx k, ¬ c < 0 ∧ ¬ 255 < c := by rcases m1 with q | q | q | q | q | q <;> subst q <;> decide
  obtain ⟨h2, E2, ⟨X2, D2, U2⟩, H113⟩ := H42.new (w2 hw) (w3 hw) (w4 hw) at_146 (by first | decide | (simp [b_at, Bx.R]; done) | (simp [b_at, Bx.R]; omega)) (by first | decide | (simp [b_at, Bx.R]; done) | (simp [b_at, Bx.R]; omega))
  obtain ⟨s1, g_s1⟩ : ∃ z, z = h1.size := ⟨_, rfl⟩
  rw [← g_s1] at X2 D2 U2 H113
  have H113 : Hr x b_at Z EL1 2 6 h2 [s1] 149 #[.val (.int p0), .val (.int p1), .val (.int p2), .val (.int p3), .val (.int k), .val (.int ap), .val (.ref a), .unset, .unset, .unset, .unset, .unset] [.ref s1] := H113
  have H114 : Hr x b_at Z EL1 2 6 h2 [s1] 150 #[.val (.int p0), .val (.int p1), .val (.int p2), .val (.int p3), .val (.int k), .val (.int ap), .val (.ref a), .unset, .unset, .unset, .unset, .unset] [.ref s1, .ref s1] := H113.dup at_149
  have H115 : Hr x b_at Z EL1 2 6 h2 [s1] 152 #[.val (.int p0), .val (.int p1), .val (.int p2), .val (.int p3), .val (.int k), .val (.int ap), .val (.ref a), .unset, .unset, .unset, .unset, .unset] [.ref a, .ref s1, .ref s1] := H114.aload at_150
  have Fcs1 : Fld Z h2 s1 "java/lang/String" "coder" "B" (.int 0) := D2 (Or.inr (w18 hw)) (ty := .byte) (by decide)
  have Fvs1 : Fld Z h2 s1 "java/lang/String" "value" "[B" .null := D2 (Or.inr (w17 hw)) (ty := .array .byte) (by decide)
  obtain ⟨_, h3, _, ⟨rfl, rfl, t1, S1⟩, K3, H116⟩ := H115.callI (argsL := [.ref a]) (rest := [.ref s1]) (Wr := 1) (a := s1) (ct_sini1 hw x.l x.nar x.kn hnar h2 s1 a (sfx k) X2 Fcs1 Fvs1 (F1.ext E2) (by omega) hrng cz O hcz) (sub1 (by simp)) (w5 hw) (w6 hw) (w4 hw) (w7 hw) at_152 pd_sini1 rfl (hf := by first | (simp [b_at, Bx.R]; done) | (simp [b_at, Bx.R]; omega)) (hl := by first | (simp [b_at, Bx.R]; done) | (simp [b_at, Bx.R]; omega)) (hc := by first | (simp [b_at, Bx.R]; done) | (simp [b_at, Bx.R]; omega)) (hs := by first | (simp [b_at, Bx.R]; done) | (simp [b_at, Bx.R]; omega))
  have H116 : Hr x b_at Z EL1 6 (6 + (8 + (sfx k).length)) h3 [s1] 155 #[.val (.int p0), .val (.int p1), .val (.int p2), .val (.int p3), .val (.int k), .val (.int ap), .val (.ref a), .unset, .unset, .unset, .unset, .unset] [.ref s1] := H116
  have H116 := H116.weaken (K' := 6) (S' := 16) (sf' := []) (by decide) (by omega) (fun _ q => nomatch q)
  have H116 : Hr x b_at Z EL1 6 16 h3 [] 155 #[.val (.int p0), .val (.int p1), .val (.int p2), .val (.int p3), .val (.int k), .val (.int ap), .val (.ref a), .unset, .unset, .unset, .unset, .unset] [.ref s1] := H116
  have H117 : Hr x b_at Z EL1 6 16 h3 [] 157 #[.val (.int p0), .val (.int p1), .val (.int p2), .val (.int p3), .val (.int k), .val (.int ap), .val (.ref a), .val (.ref s1), .unset, .unset, .unset, .unset] [] := H116.astore at_155
  obtain ⟨h4, E4, ⟨X4, D4, U4⟩, H118⟩ := H117.new (w2 hw) (w3 hw) (w4 hw) at_157 (by first | (simp [b_at, Bx.R]; done) | (simp [b_at, Bx.R]; omega)) (by first | (simp [b_at, Bx.R]; done) | (simp [b_at, Bx.R]; omega))
  obtain ⟨s2, g_s2⟩ : ∃ z, z = h3.size := ⟨_, rfl⟩
  rw [← g_s2] at X4 D4 U4 H118
  have H118 : Hr x b_at Z EL1 7 20 h4 [s2] 160 #[.val (.int p0), .val (.int p1), .val (.int p2), .val (.int p3), .val (.int k), .val (.int ap), .val (.ref a), .val (.ref s1), .unset, .unset, .unset, .unset] [.ref s2] := H118
  have H119 : Hr x b_at Z EL1 7 20 h4 [s2] 161 #[.val (.int p0), .val (.int p1), .val (.int p2), .val (.int p3), .val (.int k), .val (.int ap), .val (.ref a), .val (.ref s1), .unset, .unset, .unset, .unset] [.ref s2, .ref s2] := H118.dup at_160
  have H120 : Hr x b_at Z EL1 7 20 h4 [s2] 162 #[.val (.int p0), .val (.int p1), .val (.int p2), .val (.int p3), .val (.int k), .val (.int ap), .val (.ref a), .val (.ref s1), .unset, .unset, .unset, .unset] [.int (1 : Int32), .ref s2, .ref s2] := H119.iconst at_161
  obtain ⟨hnn, Enn, Fn, H121⟩ := H120.newarray (aty := .char) (cap := 1) (w1 hw) at_162 (by decide) (by decide) (by decide) (by first | (simp [b_at, Bx.R]; done) | (simp [b_at, Bx.R]; omega)) (by first | (simp [b_at, Bx.R]; done) | (simp [b_at, Bx.R]; omega))
  obtain ⟨an, g_an⟩ : ∃ z, z = h4.size := ⟨_, rfl⟩
  rw [← g_an] at Fn H121
  have Fn : Ar Z hnn an .char (List.replicate 1 (.int 0)) := Fn
  have H121 : Hr x b_at Z EL1 8 21 hnn [an, s2] 164 #[.val (.int p0), .val (.int p1), .val (.int p2), .val (.int p3), .val (.int k), .val (.int ap), .val (.ref a), .val (.ref s1), .unset, .unset, .unset, .unset] [.ref an, .ref s2, .ref s2] := H121
  have H122 : Hr x b_at Z EL1 8 21 hnn [an, s2] 165 #[.val (.int p0), .val (.int p1), .val (.int p2), .val (.int p3), .val (.int k), .val (.int ap), .val (.ref a), .val (.ref s1), .unset, .unset, .unset, .unset] [.ref an, .ref an, .ref s2, .ref s2] := H121.dup at_164
  have H123 : Hr x b_at Z EL1 8 21 hnn [an, s2] 166 #[.val (.int p0), .val (.int p1), .val (.int p2), .val (.int p3), .val (.int k), .val (.int ap), .val (.ref a), .val (.ref s1), .unset, .unset, .unset, .unset] [.int (0 : Int32), .ref an, .ref an, .ref s2, .ref s2] := H122.iconst at_165
  have H124 : Hr x b_at Z EL1 8 21 hnn [an, s2] 167 #[.val (.int p0), .val (.int p1), .val (.int p2), .val (.int p3), .val (.int k), .val (.int ap), .val (.ref a), .val (.ref s1), .unset, .unset, .unset, .unset] [.int p2, .int (0 : Int32), .ref an, .ref an, .ref s2, .ref s2] := H123.iloadN at_166
  have H125 : Hr x b_at Z EL1 8 21 hnn [an, s2] 170 #[.val (.int p0), .val (.int p1), .val (.int p2), .val (.int p3), .val (.int k), .val (.int ap), .val (.ref a), .val (.ref s1), .unset, .unset, .unset, .unset] [.int (255 : Int32), .int p2, .int (0 : Int32), .ref an, .ref an, .ref s2, .ref s2] := H124.sipush at_167
  have H126 : Hr x b_at Z EL1 8 21 hnn [an, s2] 171 #[.val (.int p0), .val (.int p1), .val (.int p2), .val (.int p3), .val (.int k), .val (.int ap), .val (.ref a), .val (.ref s1), .unset, .unset, .unset, .unset] [.int (p2 &&& (255 : Int32)), .int (0 : Int32), .ref an, .ref an, .ref s2, .ref s2] := H125.iand at_170
  have H127 : Hr x b_at Z EL1 8 21 hnn [an, s2] 172 #[.val (.int p0), .val (.int p1), .val (.int p2), .val (.int p3), .val (.int k), .val (.int ap), .val (.ref a), .val (.ref s1), .unset, .unset, .unset, .unset] [.int cn, .int (0 : Int32), .ref an, .ref an, .ref s2, .ref s2] := H126.i2c at_171 (hv := hcn)
  obtain ⟨hsn, Wsn, H128⟩ := H127.castore (by simp) Fn at_172 (i := 0) rfl (by simp) (hw := (nar_c rc.1 rc.2))
  have H128 : Hr x b_at Z EL1 8 21 hsn [an, s2] 173 #[.val (.int p0), .val (.int p1), .val (.int p2), .val (.int p3), .val (.int k), .val (.int ap), .val (.ref a), .val (.ref s1), .unset, .unset, .unset, .unset] [.ref an, .ref s2, .ref s2] := H128
  have Fn : Ar Z hsn an .char [.int cn] := Fn.set Wsn
  have hne2 : @Ne Nat s2 an := by have := exa_lt X4; omega
  have Fcs2 : Fld Z h4 s2 "java/lang/String" "coder" "B" (.int 0) := D4 (Or.inr (w18 hw)) (ty := .byte) (by decide)
  have Fvs2 : Fld Z h4 s2 "java/lang/String" "value" "[B" .null := D4 (Or.inr (w17 hw)) (ty := .array .byte) (by decide)
  obtain ⟨_, h5, _, ⟨rfl, rfl, t2, S2⟩, K5, H129⟩ := H128.callI (argsL := [.ref an]) (rest := [.ref s2]) (Wr := 1) (a := s2) (ct_sini1 hw x.l x.nar x.kn hnar hsn s2 an [cn] ((X4.ext Enn).wr Wsn) ((Fcs2.ext Enn).other Wsn (Or.inl hne2)) ((Fvs2.ext Enn).other Wsn (Or.inl hne2)) Fn (by simp) (hcsC rc hcs0) cz O hcz) (sub1 (by simp)) (w5 hw) (w6 hw) (w4 hw) (w7 hw) at_173 pd_sini1 rfl (hf := by first | (simp [b_at, Bx.R]; done) | (simp [b_at, Bx.R]; omega)) (hl := by first | (simp [b_at, Bx.R]; done) | (simp [b_at, Bx.R]; omega)) (hc := by first | (simp [b_at, Bx.R]; done) | (simp [b_at, Bx.R]; omega)) (hs := by first | (simp [b_at, Bx.R]; done) | (simp [b_at, Bx.R]; omega))
  have H129 : Hr x b_at Z EL1 12 30 h5 [an, s2] 176 #[.val (.int p0), .val (.int p1), .val (.int p2), .val (.int p3), .val (.int k), .val (.int ap), .val (.ref a), .val (.ref s1), .unset, .unset, .unset, .unset] [.ref s2] := H129
  have l1 := S1.lt
  have l1' := S1.lt'
  have S1b := (((S1.ext E4).ext Enn).other Wsn (neN (by have := E4.1; omega)) (neN (by have := E4.1; omega))).keep K5 (ninS (neN (by omega)) nin0) (ninS (neN (by omega)) nin0)
  have H130 : Hr x b_at Z EL1 12 30 h5 [an, s2] 178 #[.val (.int p0), .val (.int p1), .val (.int p2), .val (.int p3), .val (.int k), .val (.int ap), .val (.ref a), .val (.ref s1), .val (.ref s2), .unset, .unset, .unset] [] := H129.astore at_176
  obtain ⟨h6, E6, ⟨X6, D6, U6⟩, H131⟩ := H130.new (w34 hw) (w35 hw) (w36 hw) at_178 (by first | (simp [b_at, Bx.R]; done) | (simp [b_at, Bx.R]; omega)) (by first | (simp [b_at, Bx.R]; done) | (simp [b_at, Bx.R]; omega))
  obtain ⟨nl, g_nl⟩ : ∃ z, z = h5.size := ⟨_, rfl⟩
  rw [← g_nl] at X6 D6 U6 H131
  have H131 : Hr x b_at Z EL1 13 34 h6 [nl, an, s2] 181 #[.val (.int p0), .val (.int p1), .val (.int p2), .val (.int p3), .val (.int k), .val (.int ap), .val (.ref a), .val (.ref s1), .val (.ref s2), .unset, .unset, .unset] [.ref nl] := H131
  have H132 : Hr x b_at Z EL1 13 34 h6 [nl, an, s2] 182 #[.val (.int p0), .val (.int p1), .val (.int p2), .val (.int p3), .val (.int k), .val (.int ap), .val (.ref a), .val (.ref s1), .val (.ref s2), .unset, .unset, .unset] [.ref nl, .ref nl] := H131.dup at_181
  have H133 : Hr x b_at Z EL1 13 34 h6 [nl, an, s2] 184 #[.val (.int p0), .val (.int p1), .val (.int p2), .val (.int p3), .val (.int k), .val (.int ap), .val (.ref a), .val (.ref s1), .val (.ref s2), .unset, .unset, .unset] [.ref s2, .ref nl, .ref nl] := H132.aload at_182
  have H134 : Hr x b_at Z EL1 13 34 h6 [nl, an, s2] 185 #[.val (.int p0), .val (.int p1), .val (.int p2), .val (.int p3), .val (.int k), .val (.int ap), .val (.ref a), .val (.ref s1), .val (.ref s2), .unset, .unset, .unset] [.int p3, .ref s2, .ref nl, .ref nl] := H133.iloadN at_184
  have H135 : Hr x b_at Z EL1 13 34 h6 [nl, an, s2] 187 #[.val (.int p0), .val (.int p1), .val (.int p2), .val (.int p3), .val (.int k), .val (.int ap), .val (.ref a), .val (.ref s1), .val (.ref s2), .unset, .unset, .unset] [.int ap, .int p3, .ref s2, .ref nl, .ref nl] := H134.iload at_185
  have H136 : Hr x b_at Z EL1 13 34 h6 [nl, an, s2] 189 #[.val (.int p0), .val (.int p1), .val (.int p2), .val (.int p3), .val (.int k), .val (.int ap), .val (.ref a), .val (.ref s1), .val (.ref s2), .unset, .unset, .unset] [.ref s1, .int ap, .int p3, .ref s2, .ref nl, .ref nl] := H135.aload at_187
  have T0 : Fld Z h6 nl "com/example/entity_context/entitycontext/query/NumericLiteral" "number" "Ljava/lang/String;" (.null) := D6 (Or.inr (w42 hw)) (ty := .object "java/lang/String") (by decide)
  have T1 : Fld Z h6 nl "com/example/entity_context/entitycontext/query/NumericLiteral" "radix" "I" (.int 0) := D6 (Or.inr (w44 hw)) (ty := .int) (by decide)
  have T2 : Fld Z h6 nl "com/example/entity_context/entitycontext/query/NumericLiteral" "approximate" "Z" (.int 0) := D6 (Or.inr (w46 hw)) (ty := .boolean) (by decide)
  have T3 : Fld Z h6 nl "com/example/entity_context/entitycontext/query/NumericLiteral" "suffix" "Ljava/lang/String;" (.null) := D6 (Or.inr (w48 hw)) (ty := .object "java/lang/String") (by decide)
  obtain ⟨_, h7, _, ⟨rfl, rfl, X7, G2, G3⟩, K7, H137⟩ := H136.callI (argsL := [.ref s2, .int p3, .int ap, .ref s1]) (rest := [.ref nl]) (Wr := 1) (a := nl) (ct_nini hw x.l x.nar x.kn hnar h6 nl s2 p3 ap s1 hap X6 T0 T1 T2 T3) (sub1 (by simp)) (w37 hw) (w38 hw) (w36 hw) (w39 hw) at_189 pd_nini rfl (hf := by first | (simp [b_at, Bx.R]; done) | (simp [b_at, Bx.R]; omega)) (hl := by first | (simp [b_at, Bx.R]; done) | (simp [b_at, Bx.R]; omega)) (hc := by first | (simp [b_at, Bx.R]; done) | (simp [b_at, Bx.R]; omega)) (hs := by first | (simp [b_at, Bx.R]; done) | (simp [b_at, Bx.R]; omega))
  have H137 : Hr x b_at Z EL1 13 34 h7 [nl, an, s2] 192 #[.val (.int p0), .val (.int p1), .val (.int p2), .val (.int p3), .val (.int k), .val (.int ap), .val (.ref a), .val (.ref s1), .val (.ref s2), .unset, .unset, .unset] [.ref nl] := H137
  have l2 := S1b.lt
  have l2' := S1b.lt'
  have S1c := (S1b.ext E6).keep K7 (ninS (neN (by omega)) nin0) (ninS (neN (by omega)) nin0)
  have H138 : Hr x b_at Z EL1 13 34 h7 [nl, an, s2] 194 #[.val (.int p0), .val (.int p1), .val (.int p2), .val (.int p3), .val (.int k), .val (.int ap), .val (.ref a), .val (.ref s1), .val (.ref s2), .val (.ref nl), .unset, .unset] [] := H137.astore at_192
  have H139 : Hr x b_at Z EL1 13 34 h7 [nl, an, s2] 196 #[.val (.int p0), .val (.int p1), .val (.int p2), .val (.int p3), .val (.int k), .val (.int ap), .val (.ref a), .val (.ref s1), .val (.ref s2), .val (.ref nl), .unset, .unset] [.ref nl] := H138.aload at_194
  obtain ⟨_, h8, _, ⟨gt, ut, rfl, rfl, S8⟩, K8, H140⟩ := H139.callV (argsL := []) (rest := []) (Wr := 0) (a := nl) (ct_desc hw x.l x.nar x.kn hnar h7 nl s1 t1 ap _ G2 G3 S1c cz O hcz) sub0 X7 (w49 hw) (w50 hw) (w52 hw) (w52 hw) (w51 hw) (w36 hw) (w53 hw) at_196 pd_desc rfl (hf := by first | (simp [b_at, Bx.R]; done) | (simp [b_at, Bx.R]; omega)) (hl := by first | (simp [b_at, Bx.R]; done) | (simp [b_at, Bx.R]; omega)) (hc := by first | (simp [b_at, Bx.R]; done) | (simp [b_at, Bx.R]; omega)) (hs := by first | (simp [b_at, Bx.R]; done) | (simp [b_at, Bx.R]; omega))
  have H140 : Hr x b_at Z EL1 21 114 h8 [nl, an, s2] 199 #[.val (.int p0), .val (.int p1), .val (.int p2), .val (.int p3), .val (.int k), .val (.int ap), .val (.ref a), .val (.ref s1), .val (.ref s2), .val (.ref nl), .unset, .unset] [.ref gt] := H140
  rw [dsc_want m1 hap ha1 ha4] at S8
  have H141 : Hr x b_at Z EL1 21 114 h8 [nl, an, s2] 201 #[.val (.int p0), .val (.int p1), .val (.int p2), .val (.int p3), .val (.int k), .val (.int ap), .val (.ref a), .val (.ref s1), .val (.ref s2), .val (.ref nl), .val (.ref gt), .unset] [] := H140.astore at_199
  have H142 : Hr x b_at Z EL1 21 114 h8 [nl, an, s2] 203 #[.val (.int p0), .val (.int p1), .val (.int p2), .val (.int p3), .val (.int k), .val (.int ap), .val (.ref a), .val (.ref s1), .val (.ref s2), .val (.ref nl), .val (.ref gt), .unset] [.int k] := H141.iload at_201
  have H143 : Hr x b_at Z EL1 21 114 h8 [nl, an, s2] 204 #[.val (.int p0), .val (.int p1), .val (.int p2), .val (.int p3), .val (.int k), .val (.int ap), .val (.ref a), .val (.ref s1), .val (.ref s2), .val (.ref nl), .val (.ref gt), .unset] [.int (3 : Int32), .int k] := H142.iconst at_203
  obtain ⟨h9, wa, wu, E9, S9, H144⟩ : ∃ (h9 : Heap) (wa wu : Addr), Ext h8 h9 ∧ Str Z h9 wa wu (want k ap) ∧ Hr x b_at Z EL1 23 162 h9 [nl, an, s2] 247 #[.val (.int p0), .val (.int p1), .val (.int p2), .val (.int p3), .val (.int k), .val (.int ap), .val (.ref a), .val (.ref s1), .val (.ref s2), .val (.ref nl), .val (.ref gt), .val (.ref wa)] [] := by
    by_cases q3 : k = 3
    · have z144 := q3
      have H145 : Hr x b_at Z EL1 21 114 h8 [nl, an, s2] 207 #[.val (.int p0), .val (.int p1), .val (.int p2), .val (.int p3), .val (.int k), .val (.int ap), .val (.ref a), .val (.ref s1), .val (.ref s2), .val (.ref nl), .val (.ref gt), .unset] [] := H143.icmpF at_204 (XT.ii_ne_f q3)
      obtain ⟨la, lu, hl, El, Ll, nl_, H146⟩ := H145.ldcS (n := 36) (bs := tFl) (z := 9) (w73 hw) (wStr hw) (ew hw) (by decide) (by decide) (by decide) (by decide) at_207 (by decide) (by decide) hnar (by first | (simp [b_at, Bx.R]; done) | (simp [b_at, Bx.R]; omega)) (by first | (simp [b_at, Bx.R]; done) | (simp [b_at, Bx.R]; omega))
      have H146 : Hr x b_at Z EL1 23 154 hl [nl, an, s2] 209 #[.val (.int p0), .val (.int p1), .val (.int p2), .val (.int p3), .val (.int k), .val (.int ap), .val (.ref a), .val (.ref s1), .val (.ref s2), .val (.ref nl), .val (.ref gt), .unset] [.ref la] := H146
      have H147 : Hr x b_at Z EL1 23 154 hl [nl, an, s2] 211 #[.val (.int p0), .val (.int p1), .val (.int p2), .val (.int p3), .val (.int k), .val (.int ap), .val (.ref a), .val (.ref s1), .val (.ref s2), .val (.ref nl), .val (.ref gt), .val (.ref la)] [] := H146.astore at_209
      have H148 : Hr x b_at Z EL1 23 154 hl [nl, an, s2] 247 #[.val (.int p0), .val (.int p1), .val (.int p2), .val (.int p3), .val (.int k), .val (.int ap), .val (.ref a), .val (.ref s1), .val (.ref s2), .val (.ref nl), .val (.ref gt), .val (.ref la)] [] := H147.goto at_211
      exact ⟨_, _, _, El, by rw [show want k ap = tFl by simp [want, q3]]; exact Ll, H148.weaken (by decide) (by decide) (fun _ q => q)⟩
    · have z148 := q3
      have H149 : Hr x b_at Z EL1 21 114 h8 [nl, an, s2] 214 #[.val (.int p0), .val (.int p1), .val (.int p2), .val (.int p3), .val (.int k), .val (.int ap), .val (.ref a), .val (.ref s1), .val (.ref s2), .val (.ref nl), .val (.ref gt), .unset] [] := H143.icmpT at_204 (XT.ii_ne_t q3)
      have H150 : Hr x b_at Z EL1 21 114 h8 [nl, an, s2] 216 #[.val (.int p0), .val (.int p1), .val (.int p2), .val (.int p3), .val (.int k), .val (.int ap), .val (.ref a), .val (.ref s1), .val (.ref s2), .val (.ref nl), .val (.ref gt), .unset] [.int k] := H149.iload at_214
      have H151 : Hr x b_at Z EL1 21 114 h8 [nl, an, s2] 217 #[.val (.int p0), .val (.int p1), .val (.int p2), .val (.int p3), .val (.int k), .val (.int ap), .val (.ref a), .val (.ref s1), .val (.ref s2), .val (.ref nl), .val (.ref gt), .unset] [.int (2 : Int32), .int k] := H150.iconst at_216
      by_cases q2 : k = 2
      · have z151 := q2
        have H152 : Hr x b_at Z EL1 21 114 h8 [nl, an, s2] 236 #[.val (.int p0), .val (.int p1), .val (.int p2), .val (.int p3), .val (.int k), .val (.int ap), .val (.ref a), .val (.ref s1), .val (.ref s2), .val (.ref nl), .val (.ref gt), .unset] [] := H151.icmpT at_217 (XT.ii_eq_t q2)
        obtain ⟨la, lu, hl, El, Ll, nl_, H153⟩ := H152.ldcS (n := 44) (bs := tDe) (z := 11) (w66 hw) (wStr hw) (ew hw) (by decide) (by decide) (by decide) (by decide) at_236 (by decide) (by decide) hnar (by first | (simp [b_at, Bx.R]; done) | (simp [b_at, Bx.R]; omega)) (by first | (simp [b_at, Bx.R]; done) | (simp [b_at, Bx.R]; omega))
        have H153 : Hr x b_at Z EL1 23 162 hl [nl, an, s2] 238 #[.val (.int p0), .val (.int p1), .val (.int p2), .val (.int p3), .val (.int k), .val (.int ap), .val (.ref a), .val (.ref s1), .val (.ref s2), .val (.ref nl), .val (.ref gt), .unset] [.ref la] := H153
        have H154 : Hr x b_at Z EL1 23 162 hl [nl, an, s2] 240 #[.val (.int p0), .val (.int p1), .val (.int p2), .val (.int p3), .val (.int k), .val (.int ap), .val (.ref a), .val (.ref s1), .val (.ref s2), .val (.ref nl), .val (.ref gt), .val (.ref la)] [] := H153.astore at_238
        have H155 : Hr x b_at Z EL1 23 162 hl [nl, an, s2] 247 #[.val (.int p0), .val (.int p1), .val (.int p2), .val (.int p3), .val (.int k), .val (.int ap), .val (.ref a), .val (.ref s1), .val (.ref s2), .val (.ref nl), .val (.ref gt), .val (.ref la)] [] := H154.goto at_240
        exact ⟨_, _, _, El, by rw [show want k ap = tDe by simp [want, q3, q2]]; exact Ll, H155.weaken (by decide) (by decide) (fun _ q => q)⟩
      · have z155 := q2
        have H156 : Hr x b_at Z EL1 21 114 h8 [nl, an, s2] 220 #[.val (.int p0), .val (.int p1), .val (.int p2), .val (.int p3), .val (.int k), .val (.int ap), .val (.ref a), .val (.ref s1), .val (.ref s2), .val (.ref nl), .val (.ref gt), .unset] [] := H151.icmpF at_217 (XT.ii_eq_f q2)
        have H157 : Hr x b_at Z EL1 21 114 h8 [nl, an, s2] 222 #[.val (.int p0), .val (.int p1), .val (.int p2), .val (.int p3), .val (.int k), .val (.int ap), .val (.ref a), .val (.ref s1), .val (.ref s2), .val (.ref nl), .val (.ref gt), .unset] [.int k] := H156.iload at_220
        have H158 : Hr x b_at Z EL1 21 114 h8 [nl, an, s2] 223 #[.val (.int p0), .val (.int p1), .val (.int p2), .val (.int p3), .val (.int k), .val (.int ap), .val (.ref a), .val (.ref s1), .val (.ref s2), .val (.ref nl), .val (.ref gt), .unset] [.int (5 : Int32), .int k] := H157.iconst at_222
        by_cases q5 : k = 5
        · have z158 := q5
          have H159 : Hr x b_at Z EL1 21 114 h8 [nl, an, s2] 236 #[.val (.int p0), .val (.int p1), .val (.int p2), .val (.int p3), .val (.int k), .val (.int ap), .val (.ref a), .val (.ref s1), .val (.ref s2), .val (.ref nl), .val (.ref gt), .unset] [] := H158.icmpT at_223 (XT.ii_eq_t q5)
          obtain ⟨la, lu, hl, El, Ll, nl_, H160⟩ := H159.ldcS (n := 44) (bs := tDe) (z := 11) (w66 hw) (wStr hw) (ew hw) (by decide) (by decide) (by decide) (by decide) at_236 (by decide) (by decide) hnar (by first | (simp [b_at, Bx.R]; done) | (simp [b_at, Bx.R]; omega)) (by first | (simp [b_at, Bx.R]; done) | (simp [b_at, Bx.R]; omega))
          have H160 : Hr x b_at Z EL1 23 162 hl [nl, an, s2] 238 #[.val (.int p0), .val (.int p1), .val (.int p2), .val (.int p3), .val (.int k), .val (.int ap), .val (.ref a), .val (.ref s1), .val (.ref s2), .val (.ref nl), .val (.ref gt), .unset] [.ref la] := H160
          have H161 : Hr x b_at Z EL1 23 162 hl [nl, an, s2] 240 #[.val (.int p0), .val (.int p1), .val (.int p2), .val (.int p3), .val (.int k), .val (.int ap), .val (.ref a), .val (.ref s1), .val (.ref s2), .val (.ref nl), .val (.ref gt), .val (.ref la)] [] := H160.astore at_238
          have H162 : Hr x b_at Z EL1 23 162 hl [nl, an, s2] 247 #[.val (.int p0), .val (.int p1), .val (.int p2), .val (.int p3), .val (.int k), .val (.int ap), .val (.ref a), .val (.ref s1), .val (.ref s2), .val (.ref nl), .val (.ref gt), .val (.ref la)] [] := H161.goto at_240
          exact ⟨_, _, _, El, by rw [show want k ap = tDe by simp [want, q3, q2, q5]]; exact Ll, H162.weaken (by decide) (by decide) (fun _ q => q)⟩
        · have z162 := q5
          have H163 : Hr x b_at Z EL1 21 114 h8 [nl, an, s2] 226 #[.val (.int p0), .val (.int p1), .val (.int p2), .val (.int p3), .val (.int k), .val (.int ap), .val (.ref a), .val (.ref s1), .val (.ref s2), .val (.ref nl), .val (.ref gt), .unset] [] := H158.icmpF at_223 (XT.ii_eq_f q5)
          have H164 : Hr x b_at Z EL1 21 114 h8 [nl, an, s2] 228 #[.val (.int p0), .val (.int p1), .val (.int p2), .val (.int p3), .val (.int k), .val (.int ap), .val (.ref a), .val (.ref s1), .val (.ref s2), .val (.ref nl), .val (.ref gt), .unset] [.int k] := H163.iload at_226
          by_cases q0 : k = 0
          · have z164 := q0
            have H165 : Hr x b_at Z EL1 21 114 h8 [nl, an, s2] 231 #[.val (.int p0), .val (.int p1), .val (.int p2), .val (.int p3), .val (.int k), .val (.int ap), .val (.ref a), .val (.ref s1), .val (.ref s2), .val (.ref nl), .val (.ref gt), .unset] [] := H164.ifF at_228 (XT.i0_ne_f q0)
            have H166 : Hr x b_at Z EL1 21 114 h8 [nl, an, s2] 233 #[.val (.int p0), .val (.int p1), .val (.int p2), .val (.int p3), .val (.int k), .val (.int ap), .val (.ref a), .val (.ref s1), .val (.ref s2), .val (.ref nl), .val (.ref gt), .unset] [.int ap] := H165.iload at_231
            by_cases qp : ap = 0
            · have z166 := qp
              have H167 : Hr x b_at Z EL1 21 114 h8 [nl, an, s2] 243 #[.val (.int p0), .val (.int p1), .val (.int p2), .val (.int p3), .val (.int k), .val (.int ap), .val (.ref a), .val (.ref s1), .val (.ref s2), .val (.ref nl), .val (.ref gt), .unset] [] := H166.ifT at_233 (XT.i0_eq_t qp)
              obtain ⟨la, lu, hl, El, Ll, nl_, H168⟩ := H167.ldcS (n := 44) (bs := tIn) (z := 11) (w71 hw) (wStr hw) (ew hw) (by decide) (by decide) (by decide) (by decide) at_243 (by decide) (by decide) hnar (by first | (simp [b_at, Bx.R]; done) | (simp [b_at, Bx.R]; omega)) (by first | (simp [b_at, Bx.R]; done) | (simp [b_at, Bx.R]; omega))
              have H168 : Hr x b_at Z EL1 23 162 hl [nl, an, s2] 245 #[.val (.int p0), .val (.int p1), .val (.int p2), .val (.int p3), .val (.int k), .val (.int ap), .val (.ref a), .val (.ref s1), .val (.ref s2), .val (.ref nl), .val (.ref gt), .unset] [.ref la] := H168
              have H169 : Hr x b_at Z EL1 23 162 hl [nl, an, s2] 247 #[.val (.int p0), .val (.int p1), .val (.int p2), .val (.int p3), .val (.int k), .val (.int ap), .val (.ref a), .val (.ref s1), .val (.ref s2), .val (.ref nl), .val (.ref gt), .val (.ref la)] [] := H168.astore at_245
              exact ⟨_, _, _, El, by rw [show want k ap = tIn by simp [want, q3, q2, q5, q0, qp]]; exact Ll, H169.weaken (by decide) (by decide) (fun _ q => q)⟩
            · have z169 := qp
              have H170 : Hr x b_at Z EL1 21 114 h8 [nl, an, s2] 236 #[.val (.int p0), .val (.int p1), .val (.int p2), .val (.int p3), .val (.int k), .val (.int ap), .val (.ref a), .val (.ref s1), .val (.ref s2), .val (.ref nl), .val (.ref gt), .unset] [] := H166.ifF at_233 (XT.i0_eq_f qp)
              obtain ⟨la, lu, hl, El, Ll, nl_, H171⟩ := H170.ldcS (n := 44) (bs := tDe) (z := 11) (w66 hw) (wStr hw) (ew hw) (by decide) (by decide) (by decide) (by decide) at_236 (by decide) (by decide) hnar (by first | (simp [b_at, Bx.R]; done) | (simp [b_at, Bx.R]; omega)) (by first | (simp [b_at, Bx.R]; done) | (simp [b_at, Bx.R]; omega))
              have H171 : Hr x b_at Z EL1 23 162 hl [nl, an, s2] 238 #[.val (.int p0), .val (.int p1), .val (.int p2), .val (.int p3), .val (.int k), .val (.int ap), .val (.ref a), .val (.ref s1), .val (.ref s2), .val (.ref nl), .val (.ref gt), .unset] [.ref la] := H171
              have H172 : Hr x b_at Z EL1 23 162 hl [nl, an, s2] 240 #[.val (.int p0), .val (.int p1), .val (.int p2), .val (.int p3), .val (.int k), .val (.int ap), .val (.ref a), .val (.ref s1), .val (.ref s2), .val (.ref nl), .val (.ref gt), .val (.ref la)] [] := H171.astore at_238
              have H173 : Hr x b_at Z EL1 23 162 hl [nl, an, s2] 247 #[.val (.int p0), .val (.int p1), .val (.int p2), .val (.int p3), .val (.int k), .val (.int ap), .val (.ref a), .val (.ref s1), .val (.ref s2), .val (.ref nl), .val (.ref gt), .val (.ref la)] [] := H172.goto at_240
              exact ⟨_, _, _, El, by rw [show want k ap = tDe by simp [want, q3, q2, q5, q0, qp]]; exact Ll, H173.weaken (by decide) (by decide) (fun _ q => q)⟩
          · have z173 := q0
            have H174 : Hr x b_at Z EL1 21 114 h8 [nl, an, s2] 243 #[.val (.int p0), .val (.int p1), .val (.int p2), .val (.int p3), .val (.int k), .val (.int ap), .val (.ref a), .val (.ref s1), .val (.ref s2), .val (.ref nl), .val (.ref gt), .unset] [] := H164.ifT at_228 (XT.i0_ne_t q0)
            obtain ⟨la, lu, hl, El, Ll, nl_, H175⟩ := H174.ldcS (n := 44) (bs := tIn) (z := 11) (w71 hw) (wStr hw) (ew hw) (by decide) (by decide) (by decide) (by decide) at_243 (by decide) (by decide) hnar (by first | (simp [b_at, Bx.R]; done) | (simp [b_at, Bx.R]; omega)) (by first | (simp [b_at, Bx.R]; done) | (simp [b_at, Bx.R]; omega))
            have H175 : Hr x b_at Z EL1 23 162 hl [nl, an, s2] 245 #[.val (.int p0), .val (.int p1), .val (.int p2), .val (.int p3), .val (.int k), .val (.int ap), .val (.ref a), .val (.ref s1), .val (.ref s2), .val (.ref nl), .val (.ref gt), .unset] [.ref la] := H175
            have H176 : Hr x b_at Z EL1 23 162 hl [nl, an, s2] 247 #[.val (.int p0), .val (.int p1), .val (.int p2), .val (.int p3), .val (.int k), .val (.int ap), .val (.ref a), .val (.ref s1), .val (.ref s2), .val (.ref nl), .val (.ref gt), .val (.ref la)] [] := H175.astore at_245
            exact ⟨_, _, _, El, by rw [show want k ap = tIn by simp [want, q3, q2, q5, q0]]; exact Ll, H176.weaken (by decide) (by decide) (fun _ q => q)⟩
  have H177 : Hr x b_at Z EL1 23 162 h9 [nl, an, s2] 249 #[.val (.int p0), .val (.int p1), .val (.int p2), .val (.int p3), .val (.int k), .val (.int ap), .val (.ref a), .val (.ref s1), .val (.ref s2), .val (.ref nl), .val (.ref gt), .val (.ref wa)] [.ref wa] := H144.aload at_247
  have H178 : Hr x b_at Z EL1 23 162 h9 [nl, an, s2] 251 #[.val (.int p0), .val (.int p1), .val (.int p2), .val (.int p3), .val (.int k), .val (.int ap), .val (.ref a), .val (.ref s1), .val (.ref s2), .val (.ref nl), .val (.ref gt), .val (.ref wa)] [.ref gt, .ref wa] := H177.aload at_249
  obtain ⟨_, h10, _, ⟨rfl, rfl, e10⟩, K10, H179⟩ := H178.callV (argsL := [.ref gt]) (rest := []) (Wr := 0) (a := wa) (ct_seq hw x.l x.nar x.kn hnar h9 wa wu gt ut _ _ S9 (S8.ext E9) cz O hcz) sub0 S9.1 (w67 hw) (w56 hw) (w58 hw) (w58 hw) (w57 hw) (w4 hw) (w59 hw) at_251 pd_seq rfl (hf := by first | (simp [b_at, Bx.R]; done) | (simp [b_at, Bx.R]; omega)) (hl := by first | (simp [b_at, Bx.R]; done) | (simp [b_at, Bx.R]; omega)) (hc := by first | (simp [b_at, Bx.R]; done) | (simp [b_at, Bx.R]; omega)) (hs := by first | (simp [b_at, Bx.R]; done) | (simp [b_at, Bx.R]; omega))
  rw [e10] at H179
  have H179 : Hr x b_at Z EL1 23 162 h9 [nl, an, s2] 254 #[.val (.int p0), .val (.int p1), .val (.int p2), .val (.int p3), .val (.int k), .val (.int ap), .val (.ref a), .val (.ref s1), .val (.ref s2), .val (.ref nl), .val (.ref gt), .val (.ref wa)] [.int (if want k ap = want k ap then 1 else 0)] := H179
  have hone : (if want k ap = want k ap then (1 : Int32) else 0) = 1 := if_pos rfl
  exact H179.finZ at_254 (t := .boolean) (by rw [hone]; decide) ⟨by rw [hone], rfl⟩ sub0
set_option maxRecDepth 65536 in
set_option maxHeartbeats 4000000 in
theorem comes_1 {Post : Tables → Env → Array Value → State → Outcome → State → Prop} (hpost : ∀ tb e args s v u, (limb_1_1.after args s (.returned v) u = true ∧ limb_1_2.after args s (.returned v) u = true ∧ True) → FramedW s (.returned v) u (Jvm.fieldLocs frame_1_writes args s ++ Jvm.arrayLocs frame_1_arrays args s ++ Jvm.staticLocs frame_1_statics s) 48 10432 → Post tb e args s (.returned v) u) :
    ArmFor flags0 classFile x code maxLocals ret World_1 tables_1 room_1 Calls_1 rest_1 Pre_1 Post := by
  intro l hfl _ _ p e ha hc hk s m args below hf hA hF happ hP
  obtain ⟨hcalls, hrest, hpre⟩ := hP
  obtain ⟨-, -, -, hnamed, -, -, -, hat⟩ := (Spec.applies_iff hf).mp happ
  obtain ⟨hg, hn⟩ := and_e (Cond.before_iff.mp (show (Jvm.Cond.and given_1 narrow_1).before args s = true from hpre))
  obtain ⟨g0, hg⟩ := and_e hg
  obtain ⟨g1, hg⟩ := and_e hg
  obtain ⟨g2, hg⟩ := and_e hg
  obtain ⟨g3, hg⟩ := and_e hg
  obtain ⟨v0, v1, v2, v3, rfl⟩ : ∃ v0 v1 v2 v3 : Value, args = #[v0, v1, v2, v3] := by
    have hs : args.size = 4 := by simpa [Cond.value, given_1] using g0
    obtain ⟨L⟩ := args
    match L, hs with
    | [v0, v1, v2, v3], _ => exact ⟨v0, v1, v2, v3, rfl⟩
  have hw := fun d (hd : d ∈ tables_1) => atoms_spec (ws := Jvm.Cond.code x code maxLocals ret :: tables_1) hat d (List.mem_cons_of_mem _ hd)
  obtain ⟨hsets, hown0⟩ := atoms_of _ (rest_1_c_eq ▸ (show rest_1_c.before _ s = true from hrest))
  obtain ⟨i0, e0⟩ := is_v g1
  obtain rfl : v0 = (.int i0) := Option.some.inj e0
  obtain ⟨i1, e1⟩ := is_v g2
  obtain rfl : v1 = (.int i1) := Option.some.inj e1
  obtain ⟨i2, e2⟩ := is_v g3
  obtain rfl : v2 = (.int i2) := Option.some.inj e2
  obtain ⟨i3, e3⟩ := is_v hg
  obtain rfl : v3 = (.int i3) := Option.some.inj e3
  have n5 := not_v (Cond.before_iff.mp (hsets _ (List.mem_of_getElem? (i := 2) rfl)))
  obtain ⟨cz, ecz⟩ := is_v (Cond.before_iff.mp (hsets _ (List.mem_of_getElem? (i := 1) rfl)))
  have O : Sta s s.heap "java/lang/String" "COMPACT_STRINGS" "Z" (.int cz) := Sta.start ecz (Or.inl (hsets _ (List.mem_of_getElem? (i := 0) rfl)))
  have hcz : ¬ (cz = (0 : Int32)) := gotF (Cond.eq_ints ecz (Term.int_eval (0))) n5
  have hCH : CHv s EL1 s.vm s.heap := CHv.start (ew hw) (fun p hp => hcalls.1 p hp) (hsets _ (List.mem_of_getElem? (i := 2) rfl)) (w16 hw) (w3 hw)
  obtain ⟨n, o, h1, h2, h3, _, L, sn, rfl, ⟨rfl, -⟩, -, -, N, -, hnw, hq⟩ := ct_law hw l false false rfl s.heap i0 i1 i2 i3 cz O hcz tables_1 p e ha hc hk s m _ below hf ((Spec.applies_iff_loose hf).mp happ).1 ⟨rfl, State.Warmed39.refl s, rfl, hCH, Ext.rfl' _, fun _ q => nomatch q⟩ (fun q => nomatch q)
  refine ⟨n, _, h1, h2, h3, hpost _ _ _ _ _ _ ⟨Cond.after_iff.mpr rfl, Cond.after_iff.mpr (eq_i res_at (Term.int_eval (1)) rfl), trivial⟩ ⟨hq.1, hq.2.1, hq.2.2.1, (hq.2.2.2.sift fun y hy => Or.inr (N y hy)).mono (by decide) (by decide)⟩⟩
theorem main_1_1 : Claimed_1_1 := comes_1 fun _ _ _ _ _ _ h hF => ⟨h.1, hF⟩
theorem main_1_2 : Claimed_1_2 := comes_1 fun _ _ _ _ _ _ h hF => ⟨h.2.1, hF⟩
end Jvm.Pilot.@@N@@
namespace Jvm.Pilot.@@N@@
open Jvm Jvm.ClassFile Sem Op Lib Jvm.Free Jvm.Stand Jvm.Pilot.@@N@@.Jvm.D
/-! MADE BY PROGRAM (witnessworld.py) out of the Statement's table words and the real class files: 20 classes; the members and pool entries that the words name. The judged class is class 1, her method 1. -/
namespace start1
open Jvm.ClassFile
def u (s : String) : CpInfo := .utf8 (stringToUtf16 s)
/-- a pool by its gaps: so many unusable entries, then the entry; so many at the end -/
def gap : Nat → List CpInfo → List CpInfo
  | 0, r => r
  | n + 1, r => .unusable :: gap n r
def poolList (es : List (Nat × CpInfo)) (last : Nat) : List CpInfo := es.foldr (fun e r => gap e.1 (e.2 :: r)) (gap last [])
def pool (es : List (Nat × CpInfo)) (last : Nat) : Array CpInfo := ⟨poolList es last⟩
def fileOf (pool : Array CpInfo) (this : Nat) (attrs : Array Attribute := #[]) (ms : Array MethodInfo := #[]) (fl : Nat := 33) (sup : Nat := 0) (ifs : Array Nat := #[]) (fds : Array FieldInfo := #[]) : ClassFile where
  minorVersion := 0
  majorVersion := 65
  constantPool := pool
  accessFlags := fl
  thisClass := this
  superClass := sup
  interfaces := ifs
  fields := fds
  methods := ms
  attributes := attrs
def plain (name : String) (sup : Option ClassId) : Class where
  name := name
  kind := .ordinary
  loader := none
  accessFlags := 33
  super := sup
  interfaces := #[]
  cf := none
  fields := #[]
  methods := #[]
  instanceTypes := #[]
  staticTypes := #[]
  resolved := #[]
  callSites := []
  init := .initialized
  statics := none
  mirror := none

def pool0 : Array CpInfo := pool [(5, u "<init>"), (0, u "()V"), (1, .class_ 10), (1, u "java/lang/Object")] 113

def k0c0 : Code := { maxStack := 0, maxLocals := 1, code := object_method_1_code, exceptionTable := #[], attributes := #[] }
def k0m0 : Method := { name := "<init>", desc := "()V", sig := { parameters := [], returnType := none }, accessFlags := 1, code := some k0c0 }
/-- java/lang/Object -/
def k0 : Class := { plain "java/lang/Object" none with
  accessFlags := 33
  interfaces := #[]
  cf := some (fileOf pool0 8 #[] #[{ accessFlags := 1, nameIndex := 5, descriptorIndex := 6, attributes := #[] }] 33 0 #[] #[])
  fields := #[]
  methods := #[k0m0]
  instanceTypes := #[]
  staticTypes := #[]
  resolved := Array.replicate 124 none
  statics := none }

def pool1 : Array CpInfo := pool [(2, .class_ 4), (1, u "java/lang/Object"), (0, u "<init>"), (0, u "()V"), (0, .integer 2147483647), (0, .class_ 9), (0, u "java/lang/String"), (0, .methodref 8 11), (0, .nameAndType 5 12), (0, u "([C)V"), (0, .class_ 14), (0, u "com/example/entity_context/entitycontext/query/NumericLiteral"), (0, .methodref 13 16), (0, .nameAndType 5 17), (0, u "(Ljava/lang/String;IZLjava/lang/String;)V"), (0, .methodref 13 19), (0, .nameAndType 20 21), (0, u "describe"), (0, u "()Ljava/lang/String;"), (0, .string 23), (0, u "the float"), (0, .string 25), (0, u "the decimal"), (0, .string 27), (0, u "the integer"), (0, .methodref 8 29), (0, .nameAndType 30 31), (0, u "equals"), (0, u "(Ljava/lang/Object;)Z"), (0, .class_ 33), (0, u "com/example/entity_context/entitycontext/query/NumericLiteralDescribePinLaw"), (2, u "law"), (0, u "(IIII)Z")] 5

def k1m0 : Method := { name := "<init>", desc := "()V", sig := { parameters := [], returnType := none }, accessFlags := 1, code := none }
def k1c1 : Code := { maxStack := 7, maxLocals := 12, code := code, exceptionTable := #[], attributes := #[] }
def k1m1 : Method := { name := "law", desc := "(IIII)Z", sig := { parameters := [.int, .int, .int, .int], returnType := some .boolean }, accessFlags := 9, code := some k1c1 }
/-- com/example/entity_context/entitycontext/query/NumericLiteralDescribePinLaw -/
def k1 : Class := { plain "com/example/entity_context/entitycontext/query/NumericLiteralDescribePinLaw" (some 0) with
  accessFlags := 49
  interfaces := #[]
  cf := some (fileOf pool1 32 #[] #[{ accessFlags := 1, nameIndex := 5, descriptorIndex := 6, attributes := #[] }, { accessFlags := 9, nameIndex := 36, descriptorIndex := 37, attributes := #[] }] 49 2 #[] #[])
  fields := #[]
  methods := #[k1m0, k1m1]
  instanceTypes := #[]
  staticTypes := #[]
  resolved := Array.replicate 43 none
  statics := none }

def pool2 : Array CpInfo := pool [(1, .class_ 2), (0, u "java/io/Serializable"), (0, .class_ 4), (0, u "java/lang/Object")] 2

/-- java/io/Serializable -/
def k2 : Class := { plain "java/io/Serializable" (some 0) with
  accessFlags := 1537
  interfaces := #[]
  cf := some (fileOf pool2 1 #[] #[] 1537 3 #[] #[])
  fields := #[]
  methods := #[]
  instanceTypes := #[]
  staticTypes := #[]
  resolved := Array.replicate 7 none
  statics := none }

def pool3 : Array CpInfo := pool [(1, .class_ 2), (0, u "java/lang/Comparable"), (0, .class_ 4), (0, u "java/lang/Object")] 7

/-- java/lang/Comparable -/
def k3 : Class := { plain "java/lang/Comparable" (some 0) with
  accessFlags := 1537
  interfaces := #[]
  cf := some (fileOf pool3 1 #[] #[] 1537 3 #[] #[])
  fields := #[]
  methods := #[]
  instanceTypes := #[]
  staticTypes := #[]
  resolved := Array.replicate 12 none
  statics := none }

def pool4 : Array CpInfo := pool [(2, .class_ 4), (1, u "java/lang/CharSequence"), (42, .class_ 48), (0, u "java/lang/CharSequence$1CodePointIterator"), (10, .class_ 60), (0, u "java/lang/CharSequence$1CharIterator"), (5, .class_ 67), (0, u "java/lang/Object")] 63

/-- java/lang/CharSequence -/
def k4 : Class := { plain "java/lang/CharSequence" (some 0) with
  accessFlags := 1537
  interfaces := #[]
  cf := some (fileOf pool4 2 #[.nestMembers #[47, 59]] #[] 1537 66 #[] #[])
  fields := #[]
  methods := #[]
  instanceTypes := #[]
  staticTypes := #[]
  resolved := Array.replicate 131 none
  statics := none }

def pool5 : Array CpInfo := pool [(1, .class_ 2), (0, u "java/lang/constant/Constable"), (0, .class_ 4), (0, u "java/lang/Object")] 6

/-- java/lang/constant/Constable -/
def k5 : Class := { plain "java/lang/constant/Constable" (some 0) with
  accessFlags := 1537
  interfaces := #[]
  cf := some (fileOf pool5 1 #[] #[] 1537 3 #[] #[])
  fields := #[]
  methods := #[]
  instanceTypes := #[]
  staticTypes := #[]
  resolved := Array.replicate 11 none
  statics := none }

def pool6 : Array CpInfo := pool [(1, .class_ 2), (0, u "java/lang/constant/ConstantDesc"), (0, .class_ 4), (0, u "java/lang/Object")] 32

/-- java/lang/constant/ConstantDesc -/
def k6 : Class := { plain "java/lang/constant/ConstantDesc" (some 0) with
  accessFlags := 1537
  interfaces := #[]
  cf := some (fileOf pool6 1 #[] #[] 1537 3 #[] #[])
  fields := #[]
  methods := #[]
  instanceTypes := #[]
  staticTypes := #[]
  resolved := Array.replicate 37 none
  statics := none }

def pool7 : Array CpInfo := pool [(1, .methodref 2 3), (0, .class_ 4), (0, .nameAndType 5 6), (0, u "java/lang/Object"), (0, u "<init>"), (0, u "()V"), (0, .string 8), (0, u ""), (0, .fieldref 10 11), (0, .class_ 12), (0, .nameAndType 13 14), (0, u "java/lang/String"), (0, u "value"), (0, u "[B"), (0, .fieldref 10 16), (0, .nameAndType 17 18), (0, u "coder"), (0, u "B"), (2, u "hash"), (0, u "I"), (2, u "hashIsZero"), (0, u "Z"), (0, .methodref 10 28), (0, .nameAndType 5 29), (0, u "([CIILjava/lang/Void;)V"), (8, .fieldref 10 39), (0, .nameAndType 40 26), (0, u "COMPACT_STRINGS"), (1, .class_ 44), (1, u "java/lang/StringUTF16"), (0, u "compress"), (1, .methodref 42 48), (0, .nameAndType 49 50), (0, u "coderFromArrayLen"), (0, u "([BI)B"), (56, .class_ 109), (1, u "java/lang/StringLatin1"), (67, .methodref 42 178), (0, .nameAndType 45 179), (0, u "([CII)[B"), (361, .methodref 107 542), (0, .nameAndType 543 544), (0, u "equals"), (0, u "([B[B)Z"), (28, u "(Ljava/lang/Object;)Z"), (1, .class_ 576), (0, u "java/lang/CharSequence"), (22, u "CASE_INSENSITIVE_ORDER"), (0, u "Ljava/util/Comparator;"), (409, u "([C)V"), (90, u "serialPersistentFields"), (0, u "[Ljava/io/ObjectStreamField;"), (0, .class_ 1104), (0, u "java/lang/String$CaseInsensitiveComparator"), (1, .class_ 1107), (0, u "java/io/Serializable"), (0, .class_ 1109), (0, u "java/lang/Comparable"), (0, .class_ 1111), (0, u "java/lang/constant/Constable"), (0, .class_ 1113), (0, u "java/lang/constant/ConstantDesc"), (2, u "serialVersionUID"), (0, u "J"), (3, u "REPL"), (0, u "C"), (2, u "LATIN1"), (1, u "UTF16")] 323

def k7m0 : Method := { name := "<init>", desc := "()V", sig := { parameters := [], returnType := none }, accessFlags := 1, code := none }
def k7c1 : Code := { maxStack := 5, maxLocals := 2, code := jdk_42_method_3_code, exceptionTable := #[], attributes := #[] }
def k7m1 : Method := { name := "<init>", desc := "([C)V", sig := { parameters := [(.array .char)], returnType := none }, accessFlags := 1, code := some k7c1 }
def k7c2 : Code := { maxStack := 2, maxLocals := 3, code := jdk_42_method_66_code, exceptionTable := #[], attributes := #[] }
def k7m2 : Method := { name := "equals", desc := "(Ljava/lang/Object;)Z", sig := { parameters := [(.object "java/lang/Object")], returnType := some .boolean }, accessFlags := 1, code := some k7c2 }
def k7c3 : Code := { maxStack := 4, maxLocals := 6, code := jdk_42_method_149_code, exceptionTable := #[], attributes := #[] }
def k7m3 : Method := { name := "<init>", desc := "([CIILjava/lang/Void;)V", sig := { parameters := [(.array .char), .int, .int, (.object "java/lang/Void")], returnType := none }, accessFlags := 2, code := some k7c3 }
/-- java/lang/String -/
def k7 : Class := { plain "java/lang/String" (some 0) with
  accessFlags := 49
  interfaces := #[2, 3, 4, 5, 6]
  cf := some (fileOf pool7 10 #[.nestMembers #[1103]] #[{ accessFlags := 1, nameIndex := 5, descriptorIndex := 6, attributes := #[] }, { accessFlags := 1, nameIndex := 5, descriptorIndex := 1010, attributes := #[] }, { accessFlags := 1, nameIndex := 543, descriptorIndex := 573, attributes := #[] }, { accessFlags := 2, nameIndex := 5, descriptorIndex := 29, attributes := #[] }] 49 2 #[1106, 1108, 575, 1110, 1112] #[{ accessFlags := 18, nameIndex := 13, descriptorIndex := 14, attributes := #[] }, { accessFlags := 18, nameIndex := 17, descriptorIndex := 18, attributes := #[] }, { accessFlags := 2, nameIndex := 21, descriptorIndex := 22, attributes := #[] }, { accessFlags := 2, nameIndex := 25, descriptorIndex := 26, attributes := #[] }, { accessFlags := 26, nameIndex := 1116, descriptorIndex := 1117, attributes := #[] }, { accessFlags := 24, nameIndex := 40, descriptorIndex := 26, attributes := #[] }, { accessFlags := 26, nameIndex := 1101, descriptorIndex := 1102, attributes := #[] }, { accessFlags := 26, nameIndex := 1121, descriptorIndex := 1122, attributes := #[] }, { accessFlags := 25, nameIndex := 599, descriptorIndex := 600, attributes := #[] }, { accessFlags := 24, nameIndex := 1125, descriptorIndex := 18, attributes := #[] }, { accessFlags := 24, nameIndex := 1127, descriptorIndex := 18, attributes := #[] }])
  fields := #[{ name := "value", type := (.array .byte), accessFlags := 18, slot := 0, constantValue := 0 }, { name := "coder", type := .byte, accessFlags := 18, slot := 1, constantValue := 0 }, { name := "hash", type := .int, accessFlags := 2, slot := 2, constantValue := 0 }, { name := "hashIsZero", type := .boolean, accessFlags := 2, slot := 3, constantValue := 0 }, { name := "serialVersionUID", type := .long, accessFlags := 26, slot := 0, constantValue := 0 }, { name := "COMPACT_STRINGS", type := .boolean, accessFlags := 24, slot := 1, constantValue := 0 }, { name := "serialPersistentFields", type := (.array (.object "java/io/ObjectStreamField")), accessFlags := 26, slot := 2, constantValue := 0 }, { name := "REPL", type := .char, accessFlags := 26, slot := 3, constantValue := 0 }, { name := "CASE_INSENSITIVE_ORDER", type := (.object "java/util/Comparator"), accessFlags := 25, slot := 4, constantValue := 0 }, { name := "LATIN1", type := .byte, accessFlags := 24, slot := 5, constantValue := 0 }, { name := "UTF16", type := .byte, accessFlags := 24, slot := 6, constantValue := 0 }]
  methods := #[k7m0, k7m1, k7m2, k7m3]
  instanceTypes := #[(.array .byte), .byte, .int, .boolean]
  staticTypes := #[.long, .boolean, (.array (.object "java/io/ObjectStreamField")), .char, (.object "java/util/Comparator"), .byte, .byte]
  resolved := Array.replicate 1451 none
  statics := some 0 }

def pool8 : Array CpInfo := pool [(6, .class_ 8), (1, u "java/lang/Object"), (0, u "<init>"), (0, u "()V"), (1, .class_ 14), (1, u "java/lang/StringUTF16"), (31, u "$assertionsDisabled"), (0, u "Z"), (13, u "HI_BYTE_SHIFT"), (0, u "I"), (2, u "LO_BYTE_SHIFT"), (49, .methodref 12 116), (0, .nameAndType 117 118), (0, u "compress"), (0, u "([CI[BII)I"), (3, u "([CII)[B"), (138, u "coderFromArrayLen"), (0, u "([BI)B"), (106, .class_ 371), (1, u "java/lang/StringUTF16$LinesSpliterator"), (58, u "MAX_LENGTH"), (196, .class_ 628), (0, u "java/lang/StringUTF16$CodePointsSpliterator"), (0, .class_ 630), (0, u "java/lang/StringUTF16$CharsSpliterator")] 4

def k8m0 : Method := { name := "<init>", desc := "()V", sig := { parameters := [], returnType := none }, accessFlags := 0, code := none }
def k8c1 : Code := { maxStack := 2, maxLocals := 2, code := jdk_52_method_15_code, exceptionTable := #[], attributes := #[] }
def k8m1 : Method := { name := "coderFromArrayLen", desc := "([BI)B", sig := { parameters := [(.array .byte), .int], returnType := some .byte }, accessFlags := 8, code := some k8c1 }
def k8c2 : Code := { maxStack := 5, maxLocals := 6, code := jdk_52_method_16_code, exceptionTable := #[], attributes := #[] }
def k8m2 : Method := { name := "compress", desc := "([CII)[B", sig := { parameters := [(.array .char), .int, .int], returnType := some (.array .byte) }, accessFlags := 9, code := some k8c2 }
def k8c3 : Code := { maxStack := 3, maxLocals := 7, code := jdk_52_method_21_code, exceptionTable := #[], attributes := #[] }
def k8m3 : Method := { name := "compress", desc := "([CI[BII)I", sig := { parameters := [(.array .char), .int, (.array .byte), .int, .int], returnType := some .int }, accessFlags := 9, code := some k8c3 }
/-- java/lang/StringUTF16 -/
def k8 : Class := { plain "java/lang/StringUTF16" (some 0) with
  accessFlags := 48
  interfaces := #[]
  cf := some (fileOf pool8 12 #[.nestMembers #[627, 629, 369]] #[{ accessFlags := 0, nameIndex := 9, descriptorIndex := 10, attributes := #[] }, { accessFlags := 8, nameIndex := 261, descriptorIndex := 262, attributes := #[] }, { accessFlags := 9, nameIndex := 117, descriptorIndex := 122, attributes := #[] }, { accessFlags := 9, nameIndex := 117, descriptorIndex := 118, attributes := #[] }] 48 6 #[] #[{ accessFlags := 26, nameIndex := 61, descriptorIndex := 62, attributes := #[] }, { accessFlags := 26, nameIndex := 65, descriptorIndex := 62, attributes := #[] }, { accessFlags := 24, nameIndex := 430, descriptorIndex := 62, attributes := #[] }, { accessFlags := 4120, nameIndex := 46, descriptorIndex := 47, attributes := #[] }])
  fields := #[{ name := "HI_BYTE_SHIFT", type := .int, accessFlags := 26, slot := 0, constantValue := 0 }, { name := "LO_BYTE_SHIFT", type := .int, accessFlags := 26, slot := 1, constantValue := 0 }, { name := "MAX_LENGTH", type := .int, accessFlags := 24, slot := 2, constantValue := 0 }, { name := "$assertionsDisabled", type := .boolean, accessFlags := 4120, slot := 3, constantValue := 0 }]
  methods := #[k8m0, k8m1, k8m2, k8m3]
  instanceTypes := #[]
  staticTypes := #[.int, .int, .int, .boolean]
  resolved := Array.replicate 635 none
  statics := none }

def pool9 : Array CpInfo := pool [(1, .methodref 2 3), (0, .class_ 4), (0, .nameAndType 5 6), (0, u "java/lang/Object"), (0, u "<init>"), (0, u "()V"), (0, .fieldref 8 9), (0, .class_ 10), (0, .nameAndType 11 12), (0, u "com/example/entity_context/entitycontext/query/NumericLiteral"), (0, u "number"), (0, u "Ljava/lang/String;"), (0, .fieldref 8 14), (0, .nameAndType 15 16), (0, u "radix"), (0, u "I"), (0, .fieldref 8 18), (0, .nameAndType 19 20), (0, u "approximate"), (0, u "Z"), (0, .fieldref 8 22), (0, .nameAndType 23 12), (0, u "suffix"), (2, .methodref 27 28), (0, .class_ 29), (0, .nameAndType 30 31), (0, u "java/lang/String"), (0, u "equals"), (0, u "(Ljava/lang/Object;)Z"), (4, .string 37), (0, u "d"), (18, .string 57), (0, u "f"), (20, .string 79), (0, u "the float"), (0, .string 81), (0, u "bd"), (0, .string 83), (0, u "the decimal"), (0, .string 85), (0, u "the integer"), (49, u "(Ljava/lang/String;IZLjava/lang/String;)V"), (4, u "describe"), (0, u "()Ljava/lang/String;")] 2

def k9c0 : Code := { maxStack := 2, maxLocals := 5, code := prog_11_method_1_code, exceptionTable := #[], attributes := #[] }
def k9m0 : Method := { name := "<init>", desc := "(Ljava/lang/String;IZLjava/lang/String;)V", sig := { parameters := [(.object "java/lang/String"), .int, .boolean, (.object "java/lang/String")], returnType := none }, accessFlags := 0, code := some k9c0 }
def k9c1 : Code := { maxStack := 2, maxLocals := 2, code := prog_11_method_3_code, exceptionTable := #[], attributes := #[] }
def k9m1 : Method := { name := "describe", desc := "()Ljava/lang/String;", sig := { parameters := [], returnType := some (.object "java/lang/String") }, accessFlags := 0, code := some k9c1 }
/-- com/example/entity_context/entitycontext/query/NumericLiteral -/
def k9 : Class := { plain "com/example/entity_context/entitycontext/query/NumericLiteral" (some 0) with
  accessFlags := 48
  interfaces := #[]
  cf := some (fileOf pool9 8 #[] #[{ accessFlags := 0, nameIndex := 5, descriptorIndex := 135, attributes := #[] }, { accessFlags := 0, nameIndex := 140, descriptorIndex := 141, attributes := #[] }] 48 2 #[] #[{ accessFlags := 18, nameIndex := 11, descriptorIndex := 12, attributes := #[] }, { accessFlags := 18, nameIndex := 15, descriptorIndex := 16, attributes := #[] }, { accessFlags := 18, nameIndex := 19, descriptorIndex := 20, attributes := #[] }, { accessFlags := 18, nameIndex := 23, descriptorIndex := 12, attributes := #[] }])
  fields := #[{ name := "number", type := (.object "java/lang/String"), accessFlags := 18, slot := 0, constantValue := 0 }, { name := "radix", type := .int, accessFlags := 18, slot := 1, constantValue := 0 }, { name := "approximate", type := .boolean, accessFlags := 18, slot := 2, constantValue := 0 }, { name := "suffix", type := (.object "java/lang/String"), accessFlags := 18, slot := 3, constantValue := 0 }]
  methods := #[k9m0, k9m1]
  instanceTypes := #[(.object "java/lang/String"), .int, .boolean, (.object "java/lang/String")]
  staticTypes := #[]
  resolved := Array.replicate 144 none
  statics := none }

def pool10 : Array CpInfo := pool [(4, .class_ 6), (1, u "java/lang/Object"), (0, u "<init>"), (0, u "()V"), (5, .class_ 16), (1, u "java/lang/StringLatin1"), (104, u "$assertionsDisabled"), (0, u "Z"), (98, .class_ 223), (1, u "java/lang/StringLatin1$LinesSpliterator"), (57, u "equals"), (0, u "([B[B)Z"), (107, .class_ 391), (0, u "java/lang/StringLatin1$CharsSpliterator")] 3

def k10m0 : Method := { name := "<init>", desc := "()V", sig := { parameters := [], returnType := none }, accessFlags := 0, code := none }
def k10c1 : Code := { maxStack := 3, maxLocals := 3, code := jdk_43_method_13_code, exceptionTable := #[], attributes := #[] }
def k10m1 : Method := { name := "equals", desc := "([B[B)Z", sig := { parameters := [(.array .byte), (.array .byte)], returnType := some .boolean }, accessFlags := 9, code := some k10c1 }
/-- java/lang/StringLatin1 -/
def k10 : Class := { plain "java/lang/StringLatin1" (some 0) with
  accessFlags := 48
  interfaces := #[]
  cf := some (fileOf pool10 14 #[.nestMembers #[390, 221]] #[{ accessFlags := 0, nameIndex := 7, descriptorIndex := 8, attributes := #[] }, { accessFlags := 9, nameIndex := 281, descriptorIndex := 282, attributes := #[] }] 48 4 #[] #[{ accessFlags := 4120, nameIndex := 121, descriptorIndex := 122, attributes := #[] }])
  fields := #[{ name := "$assertionsDisabled", type := .boolean, accessFlags := 4120, slot := 0, constantValue := 0 }]
  methods := #[k10m0, k10m1]
  instanceTypes := #[]
  staticTypes := #[.boolean]
  resolved := Array.replicate 395 none
  statics := none }

def pool11 : Array CpInfo := pool [(2, .class_ 4), (1, u "java/lang/Object"), (0, u "<init>"), (0, u "()V"), (17, .class_ 26), (1, u "jdk/internal/util/Preconditions"), (28, .class_ 56), (0, u "jdk/internal/util/Preconditions$4"), (57, .class_ 115), (0, u "jdk/internal/util/Preconditions$1"), (7, u "SIOOBE_FORMATTER"), (0, u "Ljava/util/function/BiFunction;"), (0, .class_ 126), (0, u "jdk/internal/util/Preconditions$2"), (3, u "AIOOBE_FORMATTER"), (0, .class_ 132), (0, u "jdk/internal/util/Preconditions$3"), (3, u "IOOBE_FORMATTER")] 57

def k11m0 : Method := { name := "<init>", desc := "()V", sig := { parameters := [], returnType := none }, accessFlags := 1, code := none }
/-- jdk/internal/util/Preconditions -/
def k11 : Class := { plain "jdk/internal/util/Preconditions" (some 0) with
  accessFlags := 33
  interfaces := #[]
  cf := some (fileOf pool11 24 #[.nestMembers #[55, 131, 125, 114]] #[{ accessFlags := 1, nameIndex := 5, descriptorIndex := 6, attributes := #[] }] 33 2 #[] #[{ accessFlags := 25, nameIndex := 123, descriptorIndex := 124, attributes := #[] }, { accessFlags := 25, nameIndex := 130, descriptorIndex := 124, attributes := #[] }, { accessFlags := 25, nameIndex := 136, descriptorIndex := 124, attributes := #[] }])
  fields := #[{ name := "SIOOBE_FORMATTER", type := (.object "java/util/function/BiFunction"), accessFlags := 25, slot := 0, constantValue := 0 }, { name := "AIOOBE_FORMATTER", type := (.object "java/util/function/BiFunction"), accessFlags := 25, slot := 1, constantValue := 0 }, { name := "IOOBE_FORMATTER", type := (.object "java/util/function/BiFunction"), accessFlags := 25, slot := 2, constantValue := 0 }]
  methods := #[k11m0]
  instanceTypes := #[]
  staticTypes := #[(.object "java/util/function/BiFunction"), (.object "java/util/function/BiFunction"), (.object "java/util/function/BiFunction")]
  resolved := Array.replicate 194 none
  statics := some 1 }

def pool12 : Array CpInfo := pool [(9, u "<init>"), (6, .class_ 18), (1, u "java/lang/Object"), (0, u "()V"), (1, .class_ 23), (1, u "jdk/internal/util/ArraysSupport"), (0, u "LOG2_ARRAY_LONG_INDEX_SCALE"), (0, u "I"), (2, u "U"), (0, u "Ljdk/internal/misc/Unsafe;"), (8, u "BIG_ENDIAN"), (0, u "Z"), (8, u "LOG2_BYTE_BIT_SIZE"), (4, u "LOG2_ARRAY_INT_INDEX_SCALE"), (54, u "JLA"), (0, u "Ljdk/internal/access/JavaLangAccess;"), (11, u "LOG2_ARRAY_BOOLEAN_INDEX_SCALE"), (9, u "LOG2_ARRAY_BYTE_INDEX_SCALE"), (5, u "LOG2_ARRAY_CHAR_INDEX_SCALE"), (5, u "LOG2_ARRAY_SHORT_INDEX_SCALE"), (18, u "LOG2_ARRAY_FLOAT_INDEX_SCALE"), (24, u "LOG2_ARRAY_DOUBLE_INDEX_SCALE"), (89, u "T_BOOLEAN"), (2, u "T_CHAR"), (1, u "T_FLOAT"), (1, u "T_DOUBLE"), (1, u "T_BYTE"), (1, u "T_SHORT"), (1, u "T_INT"), (1, u "T_LONG"), (1, u "SOFT_MAX_ARRAY_LENGTH")] 83

def k12m0 : Method := { name := "<init>", desc := "()V", sig := { parameters := [], returnType := none }, accessFlags := 2, code := none }
/-- jdk/internal/util/ArraysSupport -/
def k12 : Class := { plain "jdk/internal/util/ArraysSupport" (some 0) with
  accessFlags := 33
  interfaces := #[]
  cf := some (fileOf pool12 21 #[] #[{ accessFlags := 2, nameIndex := 9, descriptorIndex := 19, attributes := #[] }] 33 16 #[] #[{ accessFlags := 24, nameIndex := 28, descriptorIndex := 29, attributes := #[] }, { accessFlags := 26, nameIndex := 38, descriptorIndex := 39, attributes := #[] }, { accessFlags := 25, nameIndex := 121, descriptorIndex := 25, attributes := #[] }, { accessFlags := 25, nameIndex := 131, descriptorIndex := 25, attributes := #[] }, { accessFlags := 25, nameIndex := 137, descriptorIndex := 25, attributes := #[] }, { accessFlags := 25, nameIndex := 143, descriptorIndex := 25, attributes := #[] }, { accessFlags := 25, nameIndex := 53, descriptorIndex := 25, attributes := #[] }, { accessFlags := 25, nameIndex := 24, descriptorIndex := 25, attributes := #[] }, { accessFlags := 25, nameIndex := 162, descriptorIndex := 25, attributes := #[] }, { accessFlags := 25, nameIndex := 187, descriptorIndex := 25, attributes := #[] }, { accessFlags := 26, nameIndex := 48, descriptorIndex := 25, attributes := #[] }, { accessFlags := 25, nameIndex := 277, descriptorIndex := 25, attributes := #[] }, { accessFlags := 25, nameIndex := 280, descriptorIndex := 25, attributes := #[] }, { accessFlags := 25, nameIndex := 282, descriptorIndex := 25, attributes := #[] }, { accessFlags := 25, nameIndex := 284, descriptorIndex := 25, attributes := #[] }, { accessFlags := 25, nameIndex := 286, descriptorIndex := 25, attributes := #[] }, { accessFlags := 25, nameIndex := 288, descriptorIndex := 25, attributes := #[] }, { accessFlags := 25, nameIndex := 290, descriptorIndex := 25, attributes := #[] }, { accessFlags := 25, nameIndex := 292, descriptorIndex := 25, attributes := #[] }, { accessFlags := 26, nameIndex := 108, descriptorIndex := 109, attributes := #[] }, { accessFlags := 25, nameIndex := 294, descriptorIndex := 25, attributes := #[] }])
  fields := #[{ name := "U", type := (.object "jdk/internal/misc/Unsafe"), accessFlags := 24, slot := 0, constantValue := 0 }, { name := "BIG_ENDIAN", type := .boolean, accessFlags := 26, slot := 1, constantValue := 0 }, { name := "LOG2_ARRAY_BOOLEAN_INDEX_SCALE", type := .int, accessFlags := 25, slot := 2, constantValue := 0 }, { name := "LOG2_ARRAY_BYTE_INDEX_SCALE", type := .int, accessFlags := 25, slot := 3, constantValue := 0 }, { name := "LOG2_ARRAY_CHAR_INDEX_SCALE", type := .int, accessFlags := 25, slot := 4, constantValue := 0 }, { name := "LOG2_ARRAY_SHORT_INDEX_SCALE", type := .int, accessFlags := 25, slot := 5, constantValue := 0 }, { name := "LOG2_ARRAY_INT_INDEX_SCALE", type := .int, accessFlags := 25, slot := 6, constantValue := 0 }, { name := "LOG2_ARRAY_LONG_INDEX_SCALE", type := .int, accessFlags := 25, slot := 7, constantValue := 0 }, { name := "LOG2_ARRAY_FLOAT_INDEX_SCALE", type := .int, accessFlags := 25, slot := 8, constantValue := 0 }, { name := "LOG2_ARRAY_DOUBLE_INDEX_SCALE", type := .int, accessFlags := 25, slot := 9, constantValue := 0 }, { name := "LOG2_BYTE_BIT_SIZE", type := .int, accessFlags := 26, slot := 10, constantValue := 0 }, { name := "T_BOOLEAN", type := .int, accessFlags := 25, slot := 11, constantValue := 0 }, { name := "T_CHAR", type := .int, accessFlags := 25, slot := 12, constantValue := 0 }, { name := "T_FLOAT", type := .int, accessFlags := 25, slot := 13, constantValue := 0 }, { name := "T_DOUBLE", type := .int, accessFlags := 25, slot := 14, constantValue := 0 }, { name := "T_BYTE", type := .int, accessFlags := 25, slot := 15, constantValue := 0 }, { name := "T_SHORT", type := .int, accessFlags := 25, slot := 16, constantValue := 0 }, { name := "T_INT", type := .int, accessFlags := 25, slot := 17, constantValue := 0 }, { name := "T_LONG", type := .int, accessFlags := 25, slot := 18, constantValue := 0 }, { name := "JLA", type := (.object "jdk/internal/access/JavaLangAccess"), accessFlags := 26, slot := 19, constantValue := 0 }, { name := "SOFT_MAX_ARRAY_LENGTH", type := .int, accessFlags := 25, slot := 20, constantValue := 0 }]
  methods := #[k12m0]
  instanceTypes := #[]
  staticTypes := #[(.object "jdk/internal/misc/Unsafe"), .boolean, .int, .int, .int, .int, .int, .int, .int, .int, .int, .int, .int, .int, .int, .int, .int, .int, .int, (.object "jdk/internal/access/JavaLangAccess"), .int]
  resolved := Array.replicate 378 none
  statics := none }

def pool13 : Array CpInfo := pool [(1, u "java/lang/Cloneable"), (0, .class_ 1), (0, u "java/lang/Object"), (0, .class_ 3)] 3

/-- java/lang/Cloneable -/
def k13 : Class := { plain "java/lang/Cloneable" (some 0) with
  accessFlags := 1537
  interfaces := #[]
  cf := some (fileOf pool13 2 #[] #[] 1537 4 #[] #[])
  fields := #[]
  methods := #[]
  instanceTypes := #[]
  staticTypes := #[]
  resolved := Array.replicate 8 none
  statics := none }

/-- the primitive byte -/
def k14 : Class := { plain "byte" none with kind := .primitive 'B', accessFlags := 0x411 }
/-- [B -/
def k15 : Class := { plain "[B" (some 0) with kind := .array 14 .byte, interfaces := #[13, 2], accessFlags := 1041 }

/-- the primitive char -/
def k16 : Class := { plain "char" none with kind := .primitive 'C', accessFlags := 0x411 }
/-- [C -/
def k17 : Class := { plain "[C" (some 0) with kind := .array 16 .char, interfaces := #[13, 2], accessFlags := 1041 }

/-- the primitive int -/
def k18 : Class := { plain "int" none with kind := .primitive 'I', accessFlags := 0x411 }
/-- [I -/
def k19 : Class := { plain "[I" (some 0) with kind := .array 18 .int, interfaces := #[13, 2], accessFlags := 1041 }

def heap : Heap := #[{ cls := 7, slots := #[.long 0, .int 1, .null, .int 0, .null, .int 0, .int 0], vm := .statics 7 },
  { cls := 11, slots := #[.null, .null, .null], vm := .statics 11 }]
def classes : Array Class := #[k0, k1, k2, k3, k4, k5, k6, k7, k8, k9, k10, k11, k12, k13, k14, k15, k16, k17, k18, k19]
def interned : List (Array UInt16 × Addr) := []
def slotsUsed : Nat := 10
def theMethod : MethodId := ⟨1, 1⟩
def args0 : Array Value := #[.int 5, .int 5, .int 5, .int 5]
def aboutOver (below : List Frame) : State where
  vm := { classes := classes, interned := interned.toArray }
  heap := heap
  slotsUsed := slotsUsed
  threads := #[{ frames := .invoking theMethod args0 :: below }]
def below0 : List Frame := [.native { method := ⟨0, 0⟩, args := #[] }]
def about1 : State := aboutOver below0
def p0 : Program := .bare "" "" ""
def e0 : Env := launch0.env 0 0 0
theorem w_frames : about1.frames = Frame.invoking theMethod args0 :: below0 := rfl
set_option maxRecDepth 65536 in
theorem w_args : argsFit about1.vm theMethod args0 = true := by decide +kernel
set_option maxRecDepth 65536 in
theorem w_heap : heapFits about1 = true := by decide +kernel
set_option maxRecDepth 65536 in
theorem w_runnable : about1.curStatus? = some .runnable := by decide +kernel
set_option maxRecDepth 65536 in
theorem w_alone : about1.alone = true := by decide +kernel
set_option maxRecDepth 65536 in
theorem w_named : about1.methodNamed? x = some theMethod := by decide +kernel
set_option maxRecDepth 65536 in
theorem w_hears : about1.hears theMethod below0 = true := by decide +kernel
set_option maxRecDepth 65536 in
theorem w_ripe : about1.ripe theMethod args0 below0 = true := by decide +kernel
theorem w_running : about1.status = .running := rfl
set_option maxRecDepth 65536 in
theorem w_room : about1.hasRoom e0.platform room_1 = true :=
  launch0.hasRoom_least _ room_1 (by decide +kernel) (by decide +kernel) (by decide +kernel) (by decide +kernel) (by decide +kernel) (by decide +kernel)
theorem allAtoms_all (ts : List Jvm.Cond) (a : Array Jvm.Value) (st : Jvm.State) : (allAtoms ts).before a st = ts.all (fun c => c.before a st) := by
  induction ts with
  | nil => rfl
  | cons c t ih =>
    show (Jvm.Cond.and c (allAtoms t)).before a st = _
    rw [Jvm.Cond.before_and, ih, List.all_cons]
def words1 : List Jvm.Cond := Jvm.Cond.code x code maxLocals ret :: tables_1
/-- a 'code' word, met by the world's own term for the bytes: nothing is compared byte by byte -/
theorem code_word {y : MethodName} {bytes : ByteArray} {mx : Nat} {rt : Option FieldType} {a : Array Value} {s : State} {m : MethodId} {meth : Method} {c : Code} (h1 : s.methodNamed? y = some m) (h2 : s.vm.method? m = some meth) (h3 : meth.code = some c) (h4 : c.code = bytes)
    (h5 : (c.maxLocals == mx && c.exceptionTable.isEmpty && decide (c.maxStack ≤ mostOperands) && decide (meth.sig.returnType = rt) && !meth.locks && decide (parseMethodDescriptor y.desc = some meth.sig)) = true) : (Jvm.Cond.code y bytes mx rt).before a s = true := by
  simp only [Bool.and_eq_true, beq_iff_eq, Bool.not_eq_true', decide_eq_true_eq] at h5
  obtain ⟨⟨⟨⟨⟨g1, g2⟩, g3⟩, g4⟩, g5⟩, g6⟩ := h5
  simp [Cond.before, Cond.holds, Cond.value, h1, h2, h3, h4, g1, g2, g3, g4, g5, g6]
def isCode : Jvm.Cond → Bool
  | .code _ _ _ _ => true
  | _ => false
theorem all_split {L : List Jvm.Cond} {P : Jvm.Cond → Bool} (h1 : L.all (fun c => isCode c || P c) = true) (h2 : ∀ c ∈ L.filter isCode, P c = true) : L.all P = true := by
  refine List.all_eq_true.mpr fun c hc => ?_
  have h := List.all_eq_true.mp h1 c hc
  rcases Bool.eq_false_or_eq_true (isCode c) with hi | hi
  · exact h2 c (List.mem_filter.mpr ⟨hc, hi⟩)
  · simpa [hi] using h
set_option maxRecDepth 65536 in
theorem w_c0 : (Jvm.Cond.code x code maxLocals ret).before args0 about1 = true := code_word (m := ⟨1, 1⟩) (meth := k1m1) (c := k1c1) (by decide +kernel) rfl rfl rfl (by decide +kernel)
set_option maxRecDepth 65536 in
theorem w_c1 : (Jvm.Cond.code ({ cls := "java/lang/String", name := "<init>", desc := "([C)V" } : Jvm.MethodName) jdk_42_method_3_code (2 : Nat) (Option.none : Option Jvm.ClassFile.FieldType)).before args0 about1 = true := code_word (m := ⟨7, 1⟩) (meth := k7m1) (c := k7c1) (by decide +kernel) rfl rfl rfl (by decide +kernel)
set_option maxRecDepth 65536 in
theorem w_c2 : (Jvm.Cond.code ({ cls := "java/lang/String", name := "<init>", desc := "([CIILjava/lang/Void;)V" } : Jvm.MethodName) jdk_42_method_149_code (6 : Nat) (Option.none : Option Jvm.ClassFile.FieldType)).before args0 about1 = true := code_word (m := ⟨7, 3⟩) (meth := k7m3) (c := k7c3) (by decide +kernel) rfl rfl rfl (by decide +kernel)
set_option maxRecDepth 65536 in
theorem w_c3 : (Jvm.Cond.code ({ cls := "java/lang/Object", name := "<init>", desc := "()V" } : Jvm.MethodName) object_method_1_code (1 : Nat) (Option.none : Option Jvm.ClassFile.FieldType)).before args0 about1 = true := code_word (m := ⟨0, 0⟩) (meth := k0m0) (c := k0c0) (by decide +kernel) rfl rfl rfl (by decide +kernel)
set_option maxRecDepth 65536 in
theorem w_c4 : (Jvm.Cond.code ({ cls := "java/lang/StringUTF16", name := "compress", desc := "([CII)[B" } : Jvm.MethodName) jdk_52_method_16_code (6 : Nat) (Option.some (Jvm.ClassFile.FieldType.array Jvm.ClassFile.FieldType.byte))).before args0 about1 = true := code_word (m := ⟨8, 2⟩) (meth := k8m2) (c := k8c2) (by decide +kernel) rfl rfl rfl (by decide +kernel)
set_option maxRecDepth 65536 in
theorem w_c5 : (Jvm.Cond.code ({ cls := "java/lang/StringUTF16", name := "compress", desc := "([CI[BII)I" } : Jvm.MethodName) jdk_52_method_21_code (7 : Nat) (Option.some Jvm.ClassFile.FieldType.int)).before args0 about1 = true := code_word (m := ⟨8, 3⟩) (meth := k8m3) (c := k8c3) (by decide +kernel) rfl rfl rfl (by decide +kernel)
set_option maxRecDepth 65536 in
theorem w_c6 : (Jvm.Cond.code ({ cls := "java/lang/StringUTF16", name := "coderFromArrayLen", desc := "([BI)B" } : Jvm.MethodName) jdk_52_method_15_code (2 : Nat) (Option.some Jvm.ClassFile.FieldType.byte)).before args0 about1 = true := code_word (m := ⟨8, 1⟩) (meth := k8m1) (c := k8c1) (by decide +kernel) rfl rfl rfl (by decide +kernel)
set_option maxRecDepth 65536 in
theorem w_c7 : (Jvm.Cond.code ({ cls := "com/example/entity_context/entitycontext/query/NumericLiteral", name := "<init>", desc := "(Ljava/lang/String;IZLjava/lang/String;)V" } : Jvm.MethodName) prog_11_method_1_code (5 : Nat) (Option.none : Option Jvm.ClassFile.FieldType)).before args0 about1 = true := code_word (m := ⟨9, 0⟩) (meth := k9m0) (c := k9c0) (by decide +kernel) rfl rfl rfl (by decide +kernel)
set_option maxRecDepth 65536 in
theorem w_c8 : (Jvm.Cond.code ({ cls := "com/example/entity_context/entitycontext/query/NumericLiteral", name := "describe", desc := "()Ljava/lang/String;" } : Jvm.MethodName) prog_11_method_3_code (2 : Nat) (Option.some (Jvm.ClassFile.FieldType.object "java/lang/String"))).before args0 about1 = true := code_word (m := ⟨9, 1⟩) (meth := k9m1) (c := k9c1) (by decide +kernel) rfl rfl rfl (by decide +kernel)
set_option maxRecDepth 65536 in
theorem w_c9 : (Jvm.Cond.code ({ cls := "java/lang/String", name := "equals", desc := "(Ljava/lang/Object;)Z" } : Jvm.MethodName) jdk_42_method_66_code (3 : Nat) (Option.some Jvm.ClassFile.FieldType.boolean)).before args0 about1 = true := code_word (m := ⟨7, 2⟩) (meth := k7m2) (c := k7c2) (by decide +kernel) rfl rfl rfl (by decide +kernel)
set_option maxRecDepth 65536 in
theorem w_c10 : (Jvm.Cond.code ({ cls := "java/lang/StringLatin1", name := "equals", desc := "([B[B)Z" } : Jvm.MethodName) jdk_43_method_13_code (3 : Nat) (Option.some Jvm.ClassFile.FieldType.boolean)).before args0 about1 = true := code_word (m := ⟨10, 1⟩) (meth := k10m1) (c := k10c1) (by decide +kernel) rfl rfl rfl (by decide +kernel)
def codes1 : List Jvm.Cond := [Jvm.Cond.code x code maxLocals ret, Jvm.Cond.code ({ cls := "java/lang/String", name := "<init>", desc := "([C)V" } : Jvm.MethodName) jdk_42_method_3_code (2 : Nat) (Option.none : Option Jvm.ClassFile.FieldType), Jvm.Cond.code ({ cls := "java/lang/String", name := "<init>", desc := "([CIILjava/lang/Void;)V" } : Jvm.MethodName) jdk_42_method_149_code (6 : Nat) (Option.none : Option Jvm.ClassFile.FieldType), Jvm.Cond.code ({ cls := "java/lang/Object", name := "<init>", desc := "()V" } : Jvm.MethodName) object_method_1_code (1 : Nat) (Option.none : Option Jvm.ClassFile.FieldType), Jvm.Cond.code ({ cls := "java/lang/StringUTF16", name := "compress", desc := "([CII)[B" } : Jvm.MethodName) jdk_52_method_16_code (6 : Nat) (Option.some (Jvm.ClassFile.FieldType.array Jvm.ClassFile.FieldType.byte)), Jvm.Cond.code ({ cls := "java/lang/StringUTF16", name := "compress", desc := "([CI[BII)I" } : Jvm.MethodName) jdk_52_method_21_code (7 : Nat) (Option.some Jvm.ClassFile.FieldType.int), Jvm.Cond.code ({ cls := "java/lang/StringUTF16", name := "coderFromArrayLen", desc := "([BI)B" } : Jvm.MethodName) jdk_52_method_15_code (2 : Nat) (Option.some Jvm.ClassFile.FieldType.byte), Jvm.Cond.code ({ cls := "com/example/entity_context/entitycontext/query/NumericLiteral", name := "<init>", desc := "(Ljava/lang/String;IZLjava/lang/String;)V" } : Jvm.MethodName) prog_11_method_1_code (5 : Nat) (Option.none : Option Jvm.ClassFile.FieldType), Jvm.Cond.code ({ cls := "com/example/entity_context/entitycontext/query/NumericLiteral", name := "describe", desc := "()Ljava/lang/String;" } : Jvm.MethodName) prog_11_method_3_code (2 : Nat) (Option.some (Jvm.ClassFile.FieldType.object "java/lang/String")), Jvm.Cond.code ({ cls := "java/lang/String", name := "equals", desc := "(Ljava/lang/Object;)Z" } : Jvm.MethodName) jdk_42_method_66_code (3 : Nat) (Option.some Jvm.ClassFile.FieldType.boolean), Jvm.Cond.code ({ cls := "java/lang/StringLatin1", name := "equals", desc := "([B[B)Z" } : Jvm.MethodName) jdk_43_method_13_code (3 : Nat) (Option.some Jvm.ClassFile.FieldType.boolean)]
set_option maxRecDepth 65536 in
theorem codes_eq : words1.filter isCode = codes1 := rfl
theorem w_codes : ∀ c ∈ words1.filter isCode, c.before args0 about1 = true := by
  rw [codes_eq]
  intro c hc
  simp only [codes1, List.mem_cons, List.not_mem_nil, or_false] at hc
  rcases hc with rfl | rfl | rfl | rfl | rfl | rfl | rfl | rfl | rfl | rfl | rfl
  · exact w_c0
  · exact w_c1
  · exact w_c2
  · exact w_c3
  · exact w_c4
  · exact w_c5
  · exact w_c6
  · exact w_c7
  · exact w_c8
  · exact w_c9
  · exact w_c10
set_option maxRecDepth 65536 in
theorem w_t1 : (words1.take 24).all (fun c => isCode c || c.before args0 about1) = true := by decide +kernel
set_option maxRecDepth 65536 in
theorem w_t2 : ((words1.drop 24).take 24).all (fun c => isCode c || c.before args0 about1) = true := by decide +kernel
set_option maxRecDepth 65536 in
theorem w_t3 : (((words1.drop 24).drop 24).take 24).all (fun c => isCode c || c.before args0 about1) = true := by decide +kernel
set_option maxRecDepth 65536 in
theorem w_t4 : (((words1.drop 24).drop 24).drop 24).all (fun c => isCode c || c.before args0 about1) = true := by decide +kernel
theorem w_tables : (allAtoms (Jvm.Cond.code x code maxLocals ret :: tables_1)).before args0 about1 = true := by
  rw [allAtoms_all]
  show words1.all (fun c => c.before args0 about1) = true
  refine all_split ?_ w_codes
  rw [← List.take_append_drop 24 words1, List.all_append, w_t1, ← List.take_append_drop 24 (words1.drop 24), List.all_append, w_t2, ← List.take_append_drop 24 ((words1.drop 24).drop 24), List.all_append, w_t3, w_t4]
  rfl
set_option maxRecDepth 65536 in
theorem w_rest : rest_1_c.before args0 about1 = true := by decide +kernel
set_option maxRecDepth 65536 in
theorem w_case : (Jvm.Cond.and given_1 narrow_1).before args0 about1 = true := by decide +kernel
set_option maxRecDepth 65536 in
theorem w_consts : constsHeld consts_1 about1 := Jvm.Lit.constsHeldB_iff.mp (by decide +kernel)
theorem w_applies : (headSpec (Jvm.Cond.code x code maxLocals ret :: tables_1) room_1).applies x e0.platform about1 = true :=
  (Spec.applies_iff w_frames).mpr ⟨w_running, w_runnable, w_alone, w_named, w_hears, w_ripe, w_room, w_tables⟩
theorem atStart : AtStart classFile x code maxLocals ret World_1 tables_1 room_1 Calls_1 rest_1 Pre_1 launch0 p0 e0 about1 theMethod args0 below0 :=
  ⟨lists_1, trivial, launch0.admits_env _ _ _, launch0.least_env, fairChoices_fair.cas, fairChoices_fair.clock, w_frames, w_args, w_heap, w_applies, ⟨w_consts, trivial⟩, w_rest, w_case⟩
end start1
theorem witness_1 : WitnessClaimed_1 := ⟨start1.p0, start1.e0, start1.about1, start1.theMethod, start1.args0, start1.below0, start1.atStart⟩
end Jvm.Pilot.@@N@@
