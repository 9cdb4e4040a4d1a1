import JvmDerived
import JvmDerived.Pilot.@@N@@Statement
import JvmDerived.Pilot.@@N@@Code
set_option linter.unusedVariables false
set_option linter.unusedSimpArgs false
namespace Jvm.Pilot.@@N@@
open Jvm Jvm.ClassFile Sem Op Lib Bundle Jvm.Free Jvm.Stand Jvm.LawKit Jvm.RoadKit
/-! ## The walk's own layer: where a run stands (Hr), a method's contract (Ct), one lemma a step. -/
/-- the fixed part of one walk: program, launch, environment, start, method, arguments, frames below, method record, code, the state where the steps begin, the cells that it may write, narrow tables?, known frames? -/
abbrev Cx : Type := Program × Launch × Env × State × MethodId × Array Value × List Frame × Method × Code × State × List Addr × Bool × Bool
abbrev Cx.p (x : Cx) : Program := x.1
abbrev Cx.l (x : Cx) : Launch := x.2.1
abbrev Cx.e (x : Cx) : Env := x.2.2.1
abbrev Cx.s (x : Cx) : State := x.2.2.2.1
abbrev Cx.m (x : Cx) : MethodId := x.2.2.2.2.1
abbrev Cx.args (x : Cx) : Array Value := x.2.2.2.2.2.1
abbrev Cx.below (x : Cx) : List Frame := x.2.2.2.2.2.2.1
abbrev Cx.meth (x : Cx) : Method := x.2.2.2.2.2.2.2.1
abbrev Cx.c (x : Cx) : Code := x.2.2.2.2.2.2.2.2.1
abbrev Cx.B (x : Cx) : State := x.2.2.2.2.2.2.2.2.2.1
abbrev Cx.sf0 (x : Cx) : List Addr := x.2.2.2.2.2.2.2.2.2.2.1
abbrev Cx.nar (x : Cx) : Bool := x.2.2.2.2.2.2.2.2.2.2.2.1
abbrev Cx.kn (x : Cx) : Bool := x.2.2.2.2.2.2.2.2.2.2.2.2
/-- a body: its room, its method's name, bytes, number of locals, what it returns -/
abbrev Bx : Type := Room × MethodName × ByteArray × Nat × Option FieldType
abbrev Bx.R (b : Bx) : Room := b.1
abbrev Bx.y (b : Bx) : MethodName := b.2.1
abbrev Bx.bytes (b : Bx) : ByteArray := b.2.2.1
abbrev Bx.maxL (b : Bx) : Nat := b.2.2.2.1
abbrev Bx.ret (b : Bx) : Option FieldType := b.2.2.2.2
/-- what never moves in a walk -/
def Bs (x : Cx) (b : Bx) (Z : State) (EL : List (String × Nat)) : Prop :=
  (∃ a0, EW Z a0 EL) ∧ x.p.tables.exec = Jvm.exec ∧ x.c.code = b.bytes ∧ x.c.maxLocals = b.maxL ∧ x.meth.sig.returnType = b.ret ∧ x.meth.locks = false ∧ x.meth.name = b.y.name
/-- a cell that the walk may write: made since the walk's start (or handed in), made since the law's start, and no literal's -/
def Mine (x : Cx) (Z : State) (EL : List (String × Nat)) (vm : Vm) (h : Heap) (a : Addr) : Prop := (a ∈ x.sf0 ∨ x.s.heap.size ≤ a) ∧ Z.heap.size ≤ a ∧ a < h.size ∧ Safe Z EL vm h a
/-- what moves, but for the frame -/
def Hx (x : Cx) (b : Bx) (Z : State) (EL : List (String × Nat)) (K S : Nat) (h : Heap) (sf : List Addr) (T : State) (locs : List Loc) (cells slots : Nat) (vm0 : Vm) (k0 : Nat) : Prop :=
  Stand x.p x.l x.e b.R (x.s.setVm vm0) x.m x.args x.below x.meth x.c T locs cells slots ∧ cells ≤ K ∧ slots ≤ S ∧ T.heap = h ∧ Fr Z.heap.size locs ∧
    x.s.Since vm0 k0 ∧ k0 ≤ h.size ∧ Z.Warmed39 vm0 ∧ vm0.findClass b.y.cls = some x.m.cls ∧
    CHr Z EL x.s.vm x.s.heap vm0 h ∧ Keep x.s.heap h x.sf0 ∧ Ext Z.heap h ∧ (∀ a ∈ sf, Mine x Z EL vm0 h a) ∧
    (x.nar = true → x.s.WarmedH vm0) ∧ (x.kn = true → vm0.MethodsKnown ∧ vm0.FramesKnown x.below)
/-- **WHERE THE RUN STANDS**: it has come to the frame (pc, Ls, st), the heap is h; at most K cells and S slots have been made; sf: cells that it may write -/
def Hr (x : Cx) (b : Bx) (Z : State) (EL : List (String × Nat)) (K S : Nat) (h : Heap) (sf : List Addr) (pc : Nat) (Ls : Array Slot) (st : List Value) : Prop :=
  Bs x b Z EL ∧ ∃ (T : State) (locs : List Loc) (cells slots : Nat) (vm0 : Vm) (k0 : Nat), Hx x b Z EL K S h sf T locs cells slots vm0 k0 ∧
    ∀ target, Steps x.p.tables x.e x.below (T.setTop (mkF x.m pc Ls st)) target → Steps x.p.tables x.e x.below x.B target
/-- what an end says: it returned v; Q of it, of the heap and of a list of cells that are the caller's to write; only the cells of sf, and new ones, have been written -/
def Pst (Z : State) (EL : List (String × Nat)) (sf : List Addr) (nar : Bool) (rm : Room) (Q : Option Value → Heap → List Addr → Prop) (U : State) (o : Outcome) (U' : State) : Prop :=
  ∃ (v : Option Value) (L : List Loc) (sn : List Addr), o = .returned v ∧ Q v U'.heap sn ∧ Keep U.heap U'.heap sf ∧ (∀ a ∈ sn, (a ∈ sf ∨ U.heap.size ≤ a) ∧ Z.heap.size ≤ a ∧ a < U'.heap.size ∧ Safe Z EL U'.vm U'.heap a) ∧ Fr Z.heap.size L ∧
    CHr Z EL U.vm U.heap U'.vm U'.heap ∧ (nar = true → U.WarmedH U'.vm) ∧ ReturnedEndW U o U' L rm.cells rm.slots
/-- **A METHOD's CONTRACT** at the arguments as', from the heap h, the cells of sf being its to write -/
def Ct (l : Launch) (Z : State) (EL : List (String × Nat)) (y : MethodName) (bytes : ByteArray) (maxL : Nat) (ret : Option FieldType) (rm : Room) (as' : Array Value) (h : Heap) (sf : List Addr) (nar kn : Bool) (Q : Option Value → Heap → List Addr → Prop) : Prop :=
  ∀ ws : List Jvm.Cond, MetFree l y (head1 (Jvm.Cond.code y bytes maxL ret :: ws) rm) (fun a U => a = as' ∧ Z.Warmed39 U.vm ∧ U.heap = h ∧ CHv Z EL U.vm h ∧ Ext Z.heap h ∧ ∀ a ∈ sf, Z.heap.size ≤ a ∧ a < h.size ∧ Safe Z EL U.vm h a)
    (fun _ _ bl s _ => kn = true → s.vm.MethodsKnown ∧ s.vm.FramesKnown bl) (fun _ U o U' => Pst Z EL sf nar rm Q U o U')
def Ends (x : Cx) (b : Bx) (Z : State) (EL : List (String × Nat)) (Q : Option Value → Heap → List Addr → Prop) : Prop :=
  ∃ (s₂ : State) (o : Outcome), Steps x.p.tables x.e x.below x.B s₂ ∧ s₂.status = .running ∧ Ended s₂ x.below o ∧ Pst Z EL x.sf0 x.nar b.R Q x.s o s₂
section Layer
variable {x : Cx} {b : Bx} {Z : State} {EL : List (String × Nat)} {K S : Nat} {h h' : Heap} {sf : List Addr} {pc pc' : Nat} {Ls Ls' : Array Slot} {st st' : List Value} {a0 : Array Value}
theorem Ext.rfl' (h : Heap) : Ext h h := ⟨Nat.le_refl _, fun _ _ q => q⟩
theorem Ext.tr {h1 h2 h3 : Heap} (A : Ext h1 h2) (B : Ext h2 h3) : Ext h1 h3 := ⟨Nat.le_trans A.1 B.1, fun a c q => B.2 a c (A.2 a c q)⟩
theorem Ext.keep {h1 h2 : Heap} (A : Ext h1 h2) (ws : List Addr) : Keep h1 h2 ws := (Keep.refl _ _).ext A
theorem Ext.ofKeep {h1 h2 h3 : Heap} {ws : List Addr} (A : Ext h1 h2) (B : Keep h2 h3 ws) (q : ∀ a ∈ ws, h1.size ≤ a) : Ext h1 h3 := ⟨Nat.le_trans A.1 B.1, fun a c r => B.2.1 a c (A.2 a c r) fun z => absurd (Array.getElem?_eq_some_iff.mp r).1 (Nat.not_lt.mpr (q a z))⟩
/-- the entry: a contract out of a walk -/
theorem Ct.intro {l : Launch} {y : MethodName} {bytes : ByteArray} {maxL : Nat} {ret : Option FieldType} {rm : Room} {as' : Array Value} {nar kn : Bool} {Q : Option Value → Heap → List Addr → Prop} (hpl : plainFor y = true) (hEL : EW Z a0 EL)
    (hef : ∀ m : MethodId, entryFrame m as' maxL = mkF m 0 Ls [])
    (body : ∀ x : Cx, x.l = l → x.nar = nar → x.kn = kn → x.sf0 = sf → x.s.heap = h → Hr x (rm, y, bytes, maxL, ret) Z EL 0 0 h sf 0 Ls [] → Ends x (rm, y, bytes, maxL, ret) Z EL Q) :
    Ct l Z EL y bytes maxL ret rm as' h sf nar kn Q := by
  intro ws
  refine MetFree.of_bodySF hpl hisR ?_
  intro p e s m args below meth c s₁ Bd hml0 hP hK
  obtain ⟨rfl, hZ, hh, hC, hE, hs⟩ := hP
  have hown : s.vm.findClass y.cls = some m.cls := findClass_of_methodNamed Bd.named
  have hnm := (name_of_methodNamed Bd.named Bd.method).1
  have X0 := Stand.of_body Bd
  have e0 : s₁.heap = h := by rw [← hh, Bd.state]; rfl
  subst hh
  have hF := body (p, l, e, s, m, args, below, meth, c, s₁.setTop (entryFrame m args maxL), sf, nar, kn) rfl rfl rfl rfl rfl
    ⟨⟨⟨_, hEL⟩, Bd.exec, Bd.bytes, hml0, Bd.returns, Bd.notSynchronized, hnm⟩, s₁, [], 0, 0, s.vm, s.heap.size,
      ⟨X0, Nat.le_refl _, Nat.le_refl _, e0, Fr.nil _, (State.WarmedH.refl s).since _, Nat.le_refl _, hZ, hown, CHr.refl hC, Keep.refl _ _, hE, fun a ha => ⟨Or.inl ha, hs a ha⟩, fun _ => State.WarmedH.refl s, hK⟩,
      fun t k => castTop (hef m) k⟩
  exact hF
theorem Hr.base (H : Hr x b Z EL K S h sf pc Ls st) : Bs x b Z EL := H.1
theorem Hr.old (H : Hr x b Z EL K S h sf pc Ls st) : Ext Z.heap h := by obtain ⟨-, T, locs, cells, slots, vm0, k0, X, -⟩ := H; exact X.2.2.2.2.2.2.2.2.2.2.2.1
theorem Hr.kept (H : Hr x b Z EL K S h sf pc Ls st) : Keep x.s.heap h x.sf0 := by obtain ⟨-, T, locs, cells, slots, vm0, k0, X, -⟩ := H; exact X.2.2.2.2.2.2.2.2.2.2.1
theorem Hr.lt {a : Addr} (H : Hr x b Z EL K S h sf pc Ls st) (ha : a ∈ sf) : a < h.size := by obtain ⟨-, T, locs, cells, slots, vm0, k0, X, -⟩ := H; exact (X.2.2.2.2.2.2.2.2.2.2.2.2.1 a ha).2.2.1
theorem Hr.ge {a : Addr} (H : Hr x b Z EL K S h sf pc Ls st) (ha : a ∈ sf) : Z.heap.size ≤ a := by obtain ⟨-, T, locs, cells, slots, vm0, k0, X, -⟩ := H; exact (X.2.2.2.2.2.2.2.2.2.2.2.2.1 a ha).2.1
theorem Hr.since (H : Hr x b Z EL K S h sf pc Ls st) {a : Addr} (ha : a ∈ sf) : a ∈ x.sf0 ∨ x.s.heap.size ≤ a := by obtain ⟨-, T, locs, cells, slots, vm0, k0, X, -⟩ := H; exact (X.2.2.2.2.2.2.2.2.2.2.2.2.1 a ha).1
/-- fewer cells to write, more room said to be used -/
theorem Hr.weaken {K' S' : Nat} {sf' : List Addr} (H : Hr x b Z EL K S h sf pc Ls st) (hK : K ≤ K') (hS : S ≤ S') (hsf : ∀ a ∈ sf', a ∈ sf) : Hr x b Z EL K' S' h sf' pc Ls st := by
  obtain ⟨B, T, locs, cells, slots, vm0, k0, ⟨X, h1, h2, h3, h4, h5, h6, h7, h8, h9, h10, h11, h12, h13, h14⟩, k⟩ := H
  exact ⟨B, T, locs, cells, slots, vm0, k0, ⟨X, Nat.le_trans h1 hK, Nat.le_trans h2 hS, h3, h4, h5, h6, h7, h8, h9, h10, h11, fun a ha => h12 a (hsf a ha), h13, h14⟩, k⟩
/-- a step that moves the frame alone -/
theorem Hr.step (H : Hr x b Z EL K S h sf pc Ls st)
    (f : ∀ T : State, At T x.m x.c x.below → x.p.tables.exec = Jvm.exec → x.c.code = b.bytes → ∀ target, Steps x.p.tables x.e x.below (T.setTop (mkF x.m pc' Ls' st')) target → Steps x.p.tables x.e x.below (T.setTop (mkF x.m pc Ls st)) target) : Hr x b Z EL K S h sf pc' Ls' st' := by
  obtain ⟨B, T, locs, cells, slots, vm0, k0, X, k⟩ := H
  exact ⟨B, T, locs, cells, slots, vm0, k0, X, fun t q => k t (f T X.1.here B.2.1 B.2.2.1 t q)⟩
/-- a step of the library that moves the tables at the most -/
theorem Hr.same (H : Hr x b Z EL K S h sf pc Ls st)
    (f : ∀ (T : State) (locs : List Loc) (cells slots : Nat) (vm0 : Vm), Stand x.p x.l x.e b.R (x.s.setVm vm0) x.m x.args x.below x.meth x.c T locs cells slots → T.heap = h → Z.Warmed39 (x.s.setVm vm0).vm → (x.s.setVm vm0).vm.findClass b.y.cls = some x.m.cls → Bs x b Z EL →
      ∃ T', Stand x.p x.l x.e b.R (x.s.setVm vm0) x.m x.args x.below x.meth x.c T' locs cells slots ∧ T'.heap = h ∧ ∀ target, Steps x.p.tables x.e x.below (T'.setTop (mkF x.m pc' Ls' st')) target → Steps x.p.tables x.e x.below (T.setTop (mkF x.m pc Ls st)) target) : Hr x b Z EL K S h sf pc' Ls' st' := by
  obtain ⟨B, T, locs, cells, slots, vm0, k0, ⟨X, h1, h2, h3, h4, h5, h6, h7, h8, hr⟩, k⟩ := H
  obtain ⟨T', X', e', st1⟩ := f T locs cells slots vm0 X h3 h7 h8 B
  exact ⟨B, T', locs, cells, slots, vm0, k0, ⟨X', h1, h2, e', h4, h5, h6, h7, h8, hr⟩, fun t q => k t (st1 t q)⟩
/-- a step of the library that writes one slot of a cell that is the walk's -/
theorem Hr.write {a : Addr} {sl : Nat} {v : Value} (H : Hr x b Z EL K S h sf pc Ls st) (ha : a ∈ sf)
    (f : ∀ (T : State) (locs : List Loc) (cells slots : Nat) (vm0 : Vm), Stand x.p x.l x.e b.R (x.s.setVm vm0) x.m x.args x.below x.meth x.c T locs cells slots → T.heap = h → Z.Warmed39 (x.s.setVm vm0).vm → (x.s.setVm vm0).vm.findClass b.y.cls = some x.m.cls → Bs x b Z EL →
      ∃ T' h', Stand x.p x.l x.e b.R (x.s.setVm vm0) x.m x.args x.below x.meth x.c T' (locs ++ [⟨a, sl⟩]) cells slots ∧ T'.heap = h' ∧ Wr h h' a sl v ∧ ∀ target, Steps x.p.tables x.e x.below (T'.setTop (mkF x.m pc' Ls' st')) target → Steps x.p.tables x.e x.below (T.setTop (mkF x.m pc Ls st)) target) :
    ∃ h', Wr h h' a sl v ∧ Hr x b Z EL K S h' sf pc' Ls' st' := by
  obtain ⟨B, T, locs, cells, slots, vm0, k0, ⟨X, h1, h2, h3, h4, h5, h6, h7, h8, h9, h10, h11, h12, h13, h14⟩, k⟩ := H
  obtain ⟨T', h', X', e', W, st1⟩ := f T locs cells slots vm0 X h3 h7 h8 B
  have hm := h12 a ha
  have q1 := CHv.wrStep W hm.2.2.2 h9.1
  refine ⟨h', W, B, T', _, cells, slots, vm0, k0, ⟨X', h1, h2, e', Fr.snoc X' h4 hm.2.1, h5, by rw [W.size]; exact h6, h7, h8, h9.trans (CHr.wr W hm.2.2.2 h9.1), h10.wr W hm.1, Ext.ofKeep h11 (Keep.of_wr W) (allS hm.2.1 all0), fun y hy => ?_, h13, h14⟩, fun t q => k t (st1 t q)⟩
  obtain ⟨y1, y2, y3, y4⟩ := h12 y hy
  exact ⟨y1, y2, by rw [W.size]; exact y3, Safe.wr W hm.2.2.2 h9.1 y4⟩
/-- a step of the library that makes one cell -/
theorem Hr.alloc {n : Nat} {P : Heap → Prop} (H : Hr x b Z EL K S h sf pc Ls st) (hc : K + 1 ≤ b.R.cells) (hl : S + n ≤ b.R.slots) (hlt : ∀ h', P h' → h.size < h'.size)
    (f : ∀ (T : State) (locs : List Loc) (cells slots : Nat) (vm0 : Vm), Stand x.p x.l x.e b.R (x.s.setVm vm0) x.m x.args x.below x.meth x.c T locs cells slots → T.heap = h → Z.Warmed39 (x.s.setVm vm0).vm → (x.s.setVm vm0).vm.findClass b.y.cls = some x.m.cls → Bs x b Z EL → cells + 1 ≤ b.R.cells → slots + n ≤ b.R.slots →
      ∃ T' h', Stand x.p x.l x.e b.R (x.s.setVm vm0) x.m x.args x.below x.meth x.c T' locs (cells + 1) (slots + n) ∧ T'.heap = h' ∧ Ext h h' ∧ P h' ∧ ∀ target, Steps x.p.tables x.e x.below (T'.setTop (mkF x.m pc' Ls' st')) target → Steps x.p.tables x.e x.below (T.setTop (mkF x.m pc Ls st)) target) :
    ∃ h', Ext h h' ∧ P h' ∧ Hr x b Z EL (K + 1) (S + n) h' (h.size :: sf) pc' Ls' st' := by
  obtain ⟨B, T, locs, cells, slots, vm0, k0, ⟨X, h1, h2, h3, h4, h5, h6, h7, h8, h9, h10, h11, h12, h13, h14⟩, k⟩ := H
  obtain ⟨T', h', X', e', E, hp, st1⟩ := f T locs cells slots vm0 X h3 h7 h8 B (by omega) (by omega)
  refine ⟨h', E, hp, B, T', _, _, _, vm0, k0, ⟨X', by omega, by omega, e', h4, h5, Nat.le_trans h6 E.1, h7, h8, h9.trans (CHr.ext E h9.1), h10.ext E, Ext.tr h11 E, fun y hy => ?_, h13, h14⟩, fun t q => k t (st1 t q)⟩
  rcases List.mem_cons.mp hy with rfl | hy
  · exact ⟨Or.inr h10.1, h11.1, hlt h' hp, Safe.ext E h9.1 (Safe.new (Nat.le_refl _))⟩
  · obtain ⟨y1, y2, y3, y4⟩ := h12 y hy
    exact ⟨y1, y2, Nat.lt_of_lt_of_le y3 E.1, Safe.ext E h9.1 y4⟩
/-- the payer: a contract as the library's calls take it -/
theorem Ct.backS {l : Launch} {y : MethodName} {bytes : ByteArray} {maxL : Nat} {ret : Option FieldType} {rm : Room} {as' : Array Value} {nar kn : Bool} {Q : Option Value → Heap → List Addr → Prop} (C : Ct l Z EL y bytes maxL ret rm as' h sf nar kn Q)
    {p : Program} {e : Env} {R : Room} {below : List Frame} {s : State} {vm0 : Vm} {args a1 : Array Value} {len W : Nat} (hZ : Z.Warmed39 vm0) (wc : (Jvm.Cond.code y bytes maxL ret).before a0 Z = true) (wz : (Jvm.Cond.initialized y.cls).before a0 Z = true) (hf : rm.frames + 1 ≤ R.frames) (hl : W + (maxL + 11) + rm.locals ≤ R.locals)
    (hEL : EW Z a1 EL) (H : CHv Z EL vm0 h) (hE : Ext Z.heap h) (hsf : ∀ a ∈ sf, Z.heap.size ≤ a ∧ a < h.size ∧ Safe Z EL vm0 h a) (hkn : kn = true → vm0.MethodsKnown ∧ vm0.FramesKnown below) :
    BackS l R p e below (s.setVm vm0) args y len W (fun A a => a = as' ∧ A.U.heap = h ∧ A.cells + rm.cells ≤ R.cells ∧ A.slots + rm.slots ≤ R.slots)
      (fun A _ v B => ∃ (L : List Loc) (sn : List Addr), Q v B.U.heap sn ∧ Keep h B.U.heap sf ∧ (∀ a ∈ sn, (a ∈ sf ∨ h.size ≤ a) ∧ Z.heap.size ≤ a ∧ a < B.U.heap.size ∧ Safe Z EL B.U.vm B.U.heap a) ∧ Fr Z.heap.size L ∧ B.locs = A.locs ++ L ∧ B.cells = A.cells + rm.cells ∧ B.slots = A.slots + rm.slots ∧
        CHr Z EL vm0 h B.U.vm B.U.heap ∧ (nar = true → (s.setVm vm0).WarmedH B.U.vm)) :=
  BackS.of_freeWG (bytes := bytes) (maxL := maxL) (ret := ret)
    (E := fun _ first o t L k n => k = rm.cells ∧ n = rm.slots ∧ ∃ (v : Option Value) (sn : List Addr), o = .returned v ∧ Q v t.heap sn ∧ Keep first.heap t.heap sf ∧ (∀ a ∈ sn, (a ∈ sf ∨ first.heap.size ≤ a) ∧ Z.heap.size ≤ a ∧ a < t.heap.size ∧ Safe Z EL t.vm t.heap a) ∧ Fr Z.heap.size L ∧ CHr Z EL first.vm first.heap t.vm t.heap ∧ (nar = true → first.WarmedH t.vm)) (C []) hf hl
    (fun m meth c A a Y hp => have hU : Z.Warmed39 A.U.vm := wtrans (s := s.setVm vm0) hZ Y.warmed
      ⟨by show (Jvm.Cond.and _ .tt).before a A.U = true; rw [Cond.before_and, mv hU wc]; rfl, mv hU wc, mv hU wz, hp.2.2.1, hp.2.2.2⟩)
    (fun m meth c A a g mk Y hp => ⟨hp.1, wtrans (s := s.setVm vm0) hZ Y.warmed, hp.2.1, (CHv.at Y hZ hEL H).1, hE, fun z hz => ⟨(hsf z hz).1, (hsf z hz).2.1, (CHv.at Y hZ hEL H).safe (hsf z hz).2.1 (hsf z hz).2.2⟩⟩)
    (fun m meth c A a g mk Y _ hg hk => known_frames Y hg (hkn hk).1 (hkn hk).2)
    (fun _ _ _ _ ⟨v, L, sn, q1, q2, q3, q4, q5, q6, q7, q8⟩ => ⟨L, _, _, q8, rfl, rfl, v, sn, q1, q2, q3, q4, q5, q6, q7⟩)
    (fun m meth c A a g mk v t L k n Y hp _ _ ⟨e1, e2, v', sn, q1, q2, q3, q4, q5, q6, q7⟩ => by
      cases q1; subst e1 e2
      obtain ⟨-, rfl, -⟩ := hp
      exact ⟨L, sn, q2, q3, q4, q5, rfl, rfl, rfl, (CHv.at Y hZ hEL H).trans q6, fun hn => State.WarmedH.trans (t := A.U) Y.warmed (q7 hn)⟩)
/-- behind a call: from what the library hands out to where the run stands -/
theorem Hr.after {rm : Room} {sf' : List Addr} {Q : Option Value → Heap → List Addr → Prop} (B : Bs x b Z EL) {T : State} {locs : List Loc} {cells slots : Nat} {vm0 : Vm} {k0 : Nat} (X : Hx x b Z EL K S h sf T locs cells slots vm0 k0)
    (k : ∀ target, Steps x.p.tables x.e x.below (T.setTop (mkF x.m pc Ls st)) target → Steps x.p.tables x.e x.below x.B target) (sub : ∀ a ∈ sf', a ∈ sf)
    {P : Pt} (X' : Stand x.p x.l x.e b.R ((x.s.setVm vm0).setVm P.U.vm) x.m x.args x.below x.meth x.c P.U P.locs P.cells P.slots) (hS : (x.s.setVm vm0).Since P.U.vm P.U.heap.size) (hgr : T.heap.size ≤ P.U.heap.size) {v : Option Value}
    (hp : ∃ (L : List Loc) (sn : List Addr), Q v P.U.heap sn ∧ Keep h P.U.heap sf' ∧ (∀ a ∈ sn, (a ∈ sf' ∨ h.size ≤ a) ∧ Z.heap.size ≤ a ∧ a < P.U.heap.size ∧ Safe Z EL P.U.vm P.U.heap a) ∧ Fr Z.heap.size L ∧ P.locs = locs ++ L ∧ P.cells = cells + rm.cells ∧ P.slots = slots + rm.slots ∧
        CHr Z EL vm0 h P.U.vm P.U.heap ∧ (x.nar = true → (x.s.setVm vm0).WarmedH P.U.vm))
    (hst : Steps x.p.tables x.e x.below (T.setTop (mkF x.m pc Ls st)) (P.U.setTop (mkF x.m pc' Ls st'))) :
    ∃ (h' : Heap) (sn : List Addr), Q v h' sn ∧ Keep h h' sf' ∧ Hr x b Z EL (K + rm.cells) (S + rm.slots) h' (sn ++ sf) pc' Ls st' := by
  obtain ⟨X, h1, h2, h3, h4, h5, h6, h7, h8, h9, h10, h11, h12, h13, h14⟩ := X
  obtain ⟨L, sn, q1, q2, q3, q4, q5, q6, q7, q8, q9⟩ := hp
  have hsf0 : ∀ z ∈ sf', z ∈ x.sf0 ∨ x.s.heap.size ≤ z := fun z hz => (h12 z (sub z hz)).1
  refine ⟨_, sn, q1, q2, B, P.U, P.locs, P.cells, P.slots, P.U.vm, P.U.heap.size, ⟨X', by omega, by omega, rfl, by rw [q5]; exact h4.app q4, h5.trans hS (by rw [h3] at hgr; exact Nat.le_trans h6 hgr), Nat.le_refl _, State.Warmed39.trans (t := x.s.setVm vm0) h7 hS.1, (hS.1.alike.findClass _ _).trans h8, h9.trans q8, h10.trans q2 hsf0,
    Ext.ofKeep h11 q2 (fun z hz => (h12 z (sub z hz)).2.1), fun z hz => ?_, fun hn => State.WarmedH.trans (t := x.s.setVm vm0) (h13 hn) (q9 hn), fun hk => ⟨Vm.MethodsKnown.alikeC hS.1.alike (h14 hk).1, Vm.FramesKnown.alikeC hS.1.alike (h14 hk).2⟩⟩, fun t q => k t (hst.trans q)⟩
  rcases List.mem_append.mp hz with hz | hz
  · obtain ⟨z1, z2, z3, z4⟩ := q3 z hz
    refine ⟨z1.elim (hsf0 z) (fun q => Or.inr (Nat.le_trans h10.1 q)), z2, z3, z4⟩
  · obtain ⟨z1, z2, z3, z4⟩ := h12 z hz
    exact ⟨z1, z2, Nat.lt_of_lt_of_le z3 q2.1, q8.safe z3 z4⟩
end Layer
end Jvm.Pilot.@@N@@
namespace Jvm.Pilot.@@N@@
open Jvm Jvm.ClassFile Sem Op Lib Bundle Jvm.Free Jvm.Stand Jvm.LawKit Jvm.RoadKit
section Layer2
variable {x : Cx} {b : Bx} {Z : State} {EL : List (String × Nat)} {K S : Nat} {h h' : Heap} {sf : List Addr} {pc pc' : Nat} {Ls Ls' : Array Slot} {st st' : List Value} {a0 : Array Value}
/-! ### plain steps -/
theorem Hr.iloadN {k : Fin 4} {v : Int32} (H : Hr x b Z EL K S h sf pc Ls st) (hd : decode b.bytes pc = .ok (.iload_n k, 1)) (hl : Ls[k.val]? = some (.val (.int v)) := by rfl) (hpc : pc + 1 = pc' := by rfl) : Hr x b Z EL K S h sf pc' Ls (.int v :: st) := by
  subst hpc; exact H.step fun T A hx hby t q => XS.iloadN A hx rfl (hb hby hd) hl q
theorem Hr.iload {k : Nat} {v : Int32} (H : Hr x b Z EL K S h sf pc Ls st) (hd : decode b.bytes pc = .ok (.iload k, 2)) (hl : Ls[k]? = some (.val (.int v)) := by rfl) (hpc : pc + 2 = pc' := by rfl) : Hr x b Z EL K S h sf pc' Ls (.int v :: st) := by
  subst hpc; exact H.step fun T A hx hby t q => XS.iload A hx rfl (hb hby hd) hl q
theorem Hr.aloadN {k : Fin 4} {v : Value} (H : Hr x b Z EL K S h sf pc Ls st) (hd : decode b.bytes pc = .ok (.aload_n k, 1)) (hl : Ls[k.val]? = some (.val v) := by rfl) (hv : v.isRef = true := by rfl) (hpc : pc + 1 = pc' := by rfl) : Hr x b Z EL K S h sf pc' Ls (v :: st) := by
  subst hpc; exact H.step fun T A hx hby t q => XS.aloadN A hx rfl (hb hby hd) hl hv q
theorem Hr.aload {k : Nat} {v : Value} (H : Hr x b Z EL K S h sf pc Ls st) (hd : decode b.bytes pc = .ok (.aload k, 2)) (hl : Ls[k]? = some (.val v) := by rfl) (hv : v.isRef = true := by rfl) (hpc : pc + 2 = pc' := by rfl) : Hr x b Z EL K S h sf pc' Ls (v :: st) := by
  subst hpc; exact H.step fun T A hx hby t q => XS.aload A hx rfl (hb hby hd) hl hv q
theorem Hr.iconst {i : Int} {v : Int32} (H : Hr x b Z EL K S h sf pc Ls st) (hd : decode b.bytes pc = .ok (.iconst i, 1)) (hv : Int32.ofInt i = v := by first | rfl | decide) (hpc : pc + 1 = pc' := by rfl) : Hr x b Z EL K S h sf pc' Ls (.int v :: st) := by
  subst hpc hv; exact H.step fun T A hx hby t q => XS.iconst A hx rfl (hb hby hd) q
theorem Hr.bipush {i : Int} {v : Int32} (H : Hr x b Z EL K S h sf pc Ls st) (hd : decode b.bytes pc = .ok (.bipush i, 2)) (hv : (Int8.ofInt i).toInt32 = v := by first | rfl | decide) (hpc : pc + 2 = pc' := by rfl) : Hr x b Z EL K S h sf pc' Ls (.int v :: st) := by
  subst hpc hv; exact H.step fun T A hx hby t q => XS.bipush A hx rfl (hb hby hd) q
theorem Hr.sipush {i : Int} {v : Int32} (H : Hr x b Z EL K S h sf pc Ls st) (hd : decode b.bytes pc = .ok (.sipush i, 3)) (hv : (Int16.ofInt i).toInt32 = v := by first | rfl | decide) (hpc : pc + 3 = pc' := by rfl) : Hr x b Z EL K S h sf pc' Ls (.int v :: st) := by
  subst hpc hv; exact H.step fun T A hx hby t q => XS.sipush A hx rfl (hb hby hd) q
theorem Hr.aconstNull (H : Hr x b Z EL K S h sf pc Ls st) (hd : decode b.bytes pc = .ok (.aconst_null, 1)) (hpc : pc + 1 = pc' := by rfl) : Hr x b Z EL K S h sf pc' Ls (.null :: st) := by
  subst hpc; exact H.step fun T A hx hby t q => XS.aconstNull A hx rfl (hb hby hd) q
theorem Hr.iadd {u w v : Int32} (H : Hr x b Z EL K S h sf pc Ls (.int w :: .int u :: st)) (hd : decode b.bytes pc = .ok (.iadd, 1)) (hv : u + w = v := by rfl) (hpc : pc + 1 = pc' := by rfl) : Hr x b Z EL K S h sf pc' Ls (.int v :: st) := by
  subst hpc hv; exact H.step fun T A hx hby t q => XS.iadd A hx rfl (hb hby hd) rfl q
theorem Hr.isub {u w v : Int32} (H : Hr x b Z EL K S h sf pc Ls (.int w :: .int u :: st)) (hd : decode b.bytes pc = .ok (.isub, 1)) (hv : u - w = v := by rfl) (hpc : pc + 1 = pc' := by rfl) : Hr x b Z EL K S h sf pc' Ls (.int v :: st) := by
  subst hpc hv; exact H.step fun T A hx hby t q => XS.isub A hx rfl (hb hby hd) rfl q
theorem Hr.imul {u w v : Int32} (H : Hr x b Z EL K S h sf pc Ls (.int w :: .int u :: st)) (hd : decode b.bytes pc = .ok (.imul, 1)) (hv : u * w = v := by rfl) (hpc : pc + 1 = pc' := by rfl) : Hr x b Z EL K S h sf pc' Ls (.int v :: st) := by
  subst hpc hv; exact H.step fun T A hx hby t q => XS.imul A hx rfl (hb hby hd) rfl q
theorem Hr.iand {u w v : Int32} (H : Hr x b Z EL K S h sf pc Ls (.int w :: .int u :: st)) (hd : decode b.bytes pc = .ok (.iand, 1)) (hv : u &&& w = v := by rfl) (hpc : pc + 1 = pc' := by rfl) : Hr x b Z EL K S h sf pc' Ls (.int v :: st) := by
  subst hpc hv; exact H.step fun T A hx hby t q => XS.iand A hx rfl (hb hby hd) rfl q
theorem Hr.ior {u w v : Int32} (H : Hr x b Z EL K S h sf pc Ls (.int w :: .int u :: st)) (hd : decode b.bytes pc = .ok (.ior, 1)) (hv : u ||| w = v := by rfl) (hpc : pc + 1 = pc' := by rfl) : Hr x b Z EL K S h sf pc' Ls (.int v :: st) := by
  subst hpc hv; exact H.step fun T A hx hby t q => XT.ior A hx rfl (hb hby hd) rfl q
theorem Hr.ixor {u w v : Int32} (H : Hr x b Z EL K S h sf pc Ls (.int w :: .int u :: st)) (hd : decode b.bytes pc = .ok (.ixor, 1)) (hv : u ^^^ w = v := by rfl) (hpc : pc + 1 = pc' := by rfl) : Hr x b Z EL K S h sf pc' Ls (.int v :: st) := by
  subst hpc hv; exact H.step fun T A hx hby t q => XT.ixor A hx rfl (hb hby hd) rfl q
theorem Hr.ishl {u w v : Int32} (H : Hr x b Z EL K S h sf pc Ls (.int w :: .int u :: st)) (hd : decode b.bytes pc = .ok (.ishl, 1)) (hv : u <<< (w &&& 31) = v := by rfl) (hpc : pc + 1 = pc' := by rfl) : Hr x b Z EL K S h sf pc' Ls (.int v :: st) := by
  subst hpc hv; exact H.step fun T A hx hby t q => XT.ishl A hx rfl (hb hby hd) rfl q
theorem Hr.ishr {u w v : Int32} (H : Hr x b Z EL K S h sf pc Ls (.int w :: .int u :: st)) (hd : decode b.bytes pc = .ok (.ishr, 1)) (hv : u >>> (w &&& 31) = v := by rfl) (hpc : pc + 1 = pc' := by rfl) : Hr x b Z EL K S h sf pc' Ls (.int v :: st) := by
  subst hpc hv; exact H.step fun T A hx hby t q => XT.ishr A hx rfl (hb hby hd) rfl q
theorem Hr.iushr {u w v : Int32} (H : Hr x b Z EL K S h sf pc Ls (.int w :: .int u :: st)) (hd : decode b.bytes pc = .ok (.iushr, 1)) (hv : (u.toUInt32 >>> (w &&& 31).toUInt32).toInt32 = v := by rfl) (hpc : pc + 1 = pc' := by rfl) : Hr x b Z EL K S h sf pc' Ls (.int v :: st) := by
  subst hpc hv; exact H.step fun T A hx hby t q => XT.iushr A hx rfl (hb hby hd) rfl q
theorem Hr.ineg {u v : Int32} (H : Hr x b Z EL K S h sf pc Ls (.int u :: st)) (hd : decode b.bytes pc = .ok (.ineg, 1)) (hv : -u = v := by rfl) (hpc : pc + 1 = pc' := by rfl) : Hr x b Z EL K S h sf pc' Ls (.int v :: st) := by
  subst hpc hv; exact H.step fun T A hx hby t q => XS.ineg A hx rfl (hb hby hd) rfl q
theorem Hr.irem {u w v : Int32} (H : Hr x b Z EL K S h sf pc Ls (.int w :: .int u :: st)) (hd : decode b.bytes pc = .ok (.irem, 1)) (hw : w ≠ 0) (hv : u % w = v := by rfl) (hpc : pc + 1 = pc' := by rfl) : Hr x b Z EL K S h sf pc' Ls (.int v :: st) := by
  subst hpc hv; exact H.step fun T A hx hby t q => XS.irem A hx rfl (hb hby hd) rfl hw (by rw [irem_eq_mod]; exact q)
theorem Hr.idiv {u w v : Int32} (H : Hr x b Z EL K S h sf pc Ls (.int w :: .int u :: st)) (hd : decode b.bytes pc = .ok (.idiv, 1)) (hw : w ≠ 0) (hv : u / w = v := by rfl) (hpc : pc + 1 = pc' := by rfl) : Hr x b Z EL K S h sf pc' Ls (.int v :: st) := by
  subst hpc hv; exact H.step fun T A hx hby t q => XS.idiv A hx rfl (hb hby hd) rfl hw q
theorem Hr.i2c {u v : Int32} (H : Hr x b Z EL K S h sf pc Ls (.int u :: st)) (hd : decode b.bytes pc = .ok (.i2c, 1)) (hv : u.toUInt32.toUInt16.toUInt32.toInt32 = v := by rfl) (hpc : pc + 1 = pc' := by rfl) : Hr x b Z EL K S h sf pc' Ls (.int v :: st) := by
  subst hpc hv; exact H.step fun T A hx hby t q => XT.i2c A hx rfl (hb hby hd) rfl q
theorem Hr.i2b {u v : Int32} (H : Hr x b Z EL K S h sf pc Ls (.int u :: st)) (hd : decode b.bytes pc = .ok (.i2b, 1)) (hv : u.toInt8.toInt32 = v := by rfl) (hpc : pc + 1 = pc' := by rfl) : Hr x b Z EL K S h sf pc' Ls (.int v :: st) := by
  subst hpc hv; exact H.step fun T A hx hby t q => XT.i2b A hx rfl (hb hby hd) rfl q
theorem Hr.dup {v : Value} (H : Hr x b Z EL K S h sf pc Ls (v :: st)) (hd : decode b.bytes pc = .ok (.dup, 1)) (hc : v.category = 1 := by rfl) (hpc : pc + 1 = pc' := by rfl) : Hr x b Z EL K S h sf pc' Ls (v :: v :: st) := by
  subst hpc; exact H.step fun T A hx hby t q => XS.dup A hx rfl (hb hby hd) rfl hc q
theorem Hr.dupX1 {v w : Value} (H : Hr x b Z EL K S h sf pc Ls (v :: w :: st)) (hd : decode b.bytes pc = .ok (.dup_x1, 1)) (hc : v.category = 1 := by rfl) (hc' : w.category = 1 := by rfl) (hpc : pc + 1 = pc' := by rfl) : Hr x b Z EL K S h sf pc' Ls (v :: w :: v :: st) := by
  subst hpc; exact H.step fun T A hx hby t q => XT.dupX1 A hx rfl (hb hby hd) rfl hc hc' q
theorem Hr.pop {v : Value} (H : Hr x b Z EL K S h sf pc Ls (v :: st)) (hd : decode b.bytes pc = .ok (.pop, 1)) (hc : v.category = 1 := by rfl) (hpc : pc + 1 = pc' := by rfl) : Hr x b Z EL K S h sf pc' Ls st := by
  subst hpc; exact H.step fun T A hx hby t q => XT.pop A hx rfl (hb hby hd) rfl hc q
theorem Hr.istoreN {k : Fin 4} {v : Int32} (H : Hr x b Z EL K S h sf pc Ls (.int v :: st)) (hd : decode b.bytes pc = .ok (.istore_n k, 1)) (hl : storeLocals Ls k.val (.int v) = some Ls' := by rfl) (hpc : pc + 1 = pc' := by rfl) : Hr x b Z EL K S h sf pc' Ls' st := by
  subst hpc; exact H.step fun T A hx hby t q => XS.istoreN A hx rfl (hb hby hd) rfl hl q
theorem Hr.istore {k : Nat} {v : Int32} (H : Hr x b Z EL K S h sf pc Ls (.int v :: st)) (hd : decode b.bytes pc = .ok (.istore k, 2)) (hl : storeLocals Ls k (.int v) = some Ls' := by rfl) (hpc : pc + 2 = pc' := by rfl) : Hr x b Z EL K S h sf pc' Ls' st := by
  subst hpc; exact H.step fun T A hx hby t q => XS.istore A hx rfl (hb hby hd) rfl hl q
theorem Hr.astoreN {k : Fin 4} {v : Value} (H : Hr x b Z EL K S h sf pc Ls (v :: st)) (hd : decode b.bytes pc = .ok (.astore_n k, 1)) (hl : storeLocals Ls k.val v = some Ls' := by rfl) (hv : v.isRef = true := by rfl) (hpc : pc + 1 = pc' := by rfl) : Hr x b Z EL K S h sf pc' Ls' st := by
  subst hpc; exact H.step fun T A hx hby t q => XS.astoreN A hx rfl (hb hby hd) rfl hv hl q
theorem Hr.astore {k : Nat} {v : Value} (H : Hr x b Z EL K S h sf pc Ls (v :: st)) (hd : decode b.bytes pc = .ok (.astore k, 2)) (hl : storeLocals Ls k v = some Ls' := by rfl) (hv : v.isRef = true := by rfl) (hpc : pc + 2 = pc' := by rfl) : Hr x b Z EL K S h sf pc' Ls' st := by
  subst hpc; exact H.step fun T A hx hby t q => XS.astore A hx rfl (hb hby hd) rfl hv hl q
theorem Hr.iinc {k : Nat} {cst : Int} {u v : Int32} (H : Hr x b Z EL K S h sf pc Ls st) (hd : decode b.bytes pc = .ok (.iinc k cst, 3)) (hl : Ls[k]? = some (.val (.int u)) := by rfl) (hv : u + Int32.ofInt cst = v := by rfl) (hl' : storeLocals Ls k (.int v) = some Ls' := by rfl) (hpc : pc + 3 = pc' := by rfl) : Hr x b Z EL K S h sf pc' Ls' st := by
  subst hpc hv; exact H.step fun T A hx hby t q => XS.iinc A hx rfl (hb hby hd) hl hl' q
theorem Hr.goto {o : Int} (H : Hr x b Z EL K S h sf pc Ls st) (hd : decode b.bytes pc = .ok (.goto o, 3)) (hp : ((pc : Int) + o).toNat = pc' := by decide) (ho : 0 ≤ (pc : Int) + o := by decide) : Hr x b Z EL K S h sf pc' Ls st := by
  exact H.step fun T A hx hby t q => XS.goto A hx rfl (pc0 := pc) rfl (hb hby hd) ho hp q
theorem Hr.ifT {cd : ClassFile.Cond} {o : Int} {u : Int32} (H : Hr x b Z EL K S h sf pc Ls (.int u :: st)) (hd : decode b.bytes pc = .ok (.ifCond cd o, 3)) (hc : ifCond.holds cd u = true) (hp : ((pc : Int) + o).toNat = pc' := by decide) (ho : 0 ≤ (pc : Int) + o := by decide) : Hr x b Z EL K S h sf pc' Ls st := by
  exact H.step fun T A hx hby t q => XS.ifYes A hx rfl (pc0 := pc) rfl (hb hby hd) rfl hc ho hp q
theorem Hr.ifF {cd : ClassFile.Cond} {o : Int} {u : Int32} (H : Hr x b Z EL K S h sf pc Ls (.int u :: st)) (hd : decode b.bytes pc = .ok (.ifCond cd o, 3)) (hc : ifCond.holds cd u = false) (hpc : pc + 3 = pc' := by rfl) : Hr x b Z EL K S h sf pc' Ls st := by
  subst hpc; exact H.step fun T A hx hby t q => XS.ifNo A hx rfl (hb hby hd) rfl hc q
theorem Hr.icmpT {cd : ClassFile.Cond} {o : Int} {u w : Int32} (H : Hr x b Z EL K S h sf pc Ls (.int w :: .int u :: st)) (hd : decode b.bytes pc = .ok (.if_icmp cd o, 3)) (hc : if_icmp.holds cd u w = true) (hp : ((pc : Int) + o).toNat = pc' := by decide) (ho : 0 ≤ (pc : Int) + o := by decide) : Hr x b Z EL K S h sf pc' Ls st := by
  exact H.step fun T A hx hby t q => XS.icmpYes A hx rfl (pc0 := pc) rfl (hb hby hd) rfl hc ho hp q
theorem Hr.icmpF {cd : ClassFile.Cond} {o : Int} {u w : Int32} (H : Hr x b Z EL K S h sf pc Ls (.int w :: .int u :: st)) (hd : decode b.bytes pc = .ok (.if_icmp cd o, 3)) (hc : if_icmp.holds cd u w = false) (hpc : pc + 3 = pc' := by rfl) : Hr x b Z EL K S h sf pc' Ls st := by
  subst hpc; exact H.step fun T A hx hby t q => XS.icmpNo A hx rfl (hb hby hd) rfl hc q
theorem Hr.acmpT {cd : ClassFile.ACond} {o : Int} {u w : Value} (H : Hr x b Z EL K S h sf pc Ls (w :: u :: st)) (hd : decode b.bytes pc = .ok (.if_acmp cd o, 3)) (hc : XT.acmp cd u w = true) (hu : u.isRef = true := by rfl) (hw : w.isRef = true := by rfl) (hp : ((pc : Int) + o).toNat = pc' := by decide) (ho : 0 ≤ (pc : Int) + o := by decide) : Hr x b Z EL K S h sf pc' Ls st := by
  exact H.step fun T A hx hby t q => XT.acmpYes A hx rfl (pc0 := pc) rfl (hb hby hd) rfl hu hw hc ho hp q
theorem Hr.acmpF {cd : ClassFile.ACond} {o : Int} {u w : Value} (H : Hr x b Z EL K S h sf pc Ls (w :: u :: st)) (hd : decode b.bytes pc = .ok (.if_acmp cd o, 3)) (hc : XT.acmp cd u w = false) (hu : u.isRef = true := by rfl) (hw : w.isRef = true := by rfl) (hpc : pc + 3 = pc' := by rfl) : Hr x b Z EL K S h sf pc' Ls st := by
  subst hpc; exact H.step fun T A hx hby t q => XT.acmpNo A hx rfl (hb hby hd) rfl hu hw hc q
theorem Hr.ifnullT {o : Int} (H : Hr x b Z EL K S h sf pc Ls (.null :: st)) (hd : decode b.bytes pc = .ok (.ifnull o, 3)) (hp : ((pc : Int) + o).toNat = pc' := by decide) (ho : 0 ≤ (pc : Int) + o := by decide) : Hr x b Z EL K S h sf pc' Ls st := by
  exact H.step fun T A hx hby t q => XS.ifnullYes A hx rfl (pc0 := pc) rfl (hb hby hd) rfl ho hp q
theorem Hr.ifnullF {o : Int} {a : Addr} (H : Hr x b Z EL K S h sf pc Ls (.ref a :: st)) (hd : decode b.bytes pc = .ok (.ifnull o, 3)) (hpc : pc + 3 = pc' := by rfl) : Hr x b Z EL K S h sf pc' Ls st := by
  subst hpc; exact H.step fun T A hx hby t q => XS.ifnullNo A hx rfl (hb hby hd) rfl q
theorem Hr.ifnonnullT {o : Int} {a : Addr} (H : Hr x b Z EL K S h sf pc Ls (.ref a :: st)) (hd : decode b.bytes pc = .ok (.ifnonnull o, 3)) (hp : ((pc : Int) + o).toNat = pc' := by decide) (ho : 0 ≤ (pc : Int) + o := by decide) : Hr x b Z EL K S h sf pc' Ls st := by
  exact H.step fun T A hx hby t q => XT.ifnonnullYes A hx rfl (pc0 := pc) rfl (hb hby hd) rfl ho hp q
theorem Hr.ifnonnullF {o : Int} (H : Hr x b Z EL K S h sf pc Ls (.null :: st)) (hd : decode b.bytes pc = .ok (.ifnonnull o, 3)) (hpc : pc + 3 = pc' := by rfl) : Hr x b Z EL K S h sf pc' Ls st := by
  subst hpc; exact H.step fun T A hx hby t q => XT.ifnonnullNo A hx rfl (hb hby hd) rfl q
/-! ### longs -/
theorem Hr.lloadN {k : Fin 4} {v : Int64} (H : Hr x b Z EL K S h sf pc Ls st) (hd : decode b.bytes pc = .ok (.lload_n k, 1)) (hl : Ls[k.val]? = some (.val (.long v)) := by rfl) (hpc : pc + 1 = pc' := by rfl) : Hr x b Z EL K S h sf pc' Ls (.long v :: st) := by
  subst hpc; exact H.step fun T A hx hby t q => XT.lloadN A hx rfl (hb hby hd) hl q
theorem Hr.lushr {u : Int64} {w : Int32} {v : Int64} (H : Hr x b Z EL K S h sf pc Ls (.int w :: .long u :: st)) (hd : decode b.bytes pc = .ok (.lushr, 1)) (hv : XT.ushrL u w = v := by rfl) (hpc : pc + 1 = pc' := by rfl) : Hr x b Z EL K S h sf pc' Ls (.long v :: st) := by
  subst hpc hv; exact H.step fun T A hx hby t q => XT.lushr A hx rfl (hb hby hd) rfl q
theorem Hr.land {u w v : Int64} (H : Hr x b Z EL K S h sf pc Ls (.long w :: .long u :: st)) (hd : decode b.bytes pc = .ok (.land, 1)) (hv : u &&& w = v := by rfl) (hpc : pc + 1 = pc' := by rfl) : Hr x b Z EL K S h sf pc' Ls (.long v :: st) := by
  subst hpc hv; exact H.step fun T A hx hby t q => XT.land A hx rfl (hb hby hd) rfl q
theorem Hr.l2i {u : Int64} {v : Int32} (H : Hr x b Z EL K S h sf pc Ls (.long u :: st)) (hd : decode b.bytes pc = .ok (.l2i, 1)) (hv : u.toInt32 = v := by rfl) (hpc : pc + 1 = pc' := by rfl) : Hr x b Z EL K S h sf pc' Ls (.int v :: st) := by
  subst hpc hv; exact H.step fun T A hx hby t q => XT.l2i A hx rfl (hb hby hd) rfl q
/-! ### constants, fields, statics, casts -/
theorem Hr.ldcI {index : Nat} {v : Int32} (H : Hr x b Z EL K S h sf pc Ls st) (w : (Jvm.Cond.constant b.y.cls index v).before a0 Z = true) (hd : decode b.bytes pc = .ok (.ldc index, 2)) (hpc : pc + 2 = pc' := by rfl) : Hr x b Z EL K S h sf pc' Ls (.int v :: st) := by
  subst hpc
  exact H.same fun T locs cells slots vm0 X eT hZ hown B => ⟨T, X, eT, X.ldcInt B.2.1 hown (mvT hZ w) (g := mkF x.m pc Ls st) rfl (hb B.2.2.1 hd)⟩
theorem Hr.ldcL {index : Nat} {v : Int64} (H : Hr x b Z EL K S h sf pc Ls st) (w : (Jvm.Cond.constantLong b.y.cls index v).before a0 Z = true) (hd : decode b.bytes pc = .ok (.ldc2_w index, 3)) (hpc : pc + 3 = pc' := by rfl) : Hr x b Z EL K S h sf pc' Ls (.long v :: st) := by
  subst hpc
  exact H.same fun T locs cells slots vm0 X eT hZ hown B => ⟨T, X, eT, X.ldc2Long B.2.1 hown (mvT hZ w) (g := mkF x.m pc Ls st) rfl (hb B.2.2.1 hd)⟩
theorem Hr.getF {index : Nat} {O n d : String} {a : Addr} {v : Value} (H : Hr x b Z EL K S h sf pc Ls (.ref a :: st)) (w : (Jvm.Cond.fieldLink b.y.cls index O n d).before a0 Z = true) (F : Fld Z h a O n d v) (hd : decode b.bytes pc = .ok (.getfield index, 3)) (hpc : pc + 3 = pc' := by rfl) : Hr x b Z EL K S h sf pc' Ls (v :: st) := by
  subst hpc
  exact H.same fun T locs cells slots vm0 X eT hZ hown B => Jvm.RoadKit.getF X B.2.1 hZ hown (host := "") (Or.inl w) Via.refl eT F (g := mkF x.m pc Ls (.ref a :: st)) rfl rfl (hb B.2.2.1 hd)
theorem Hr.getFvia {index : Nat} {R0 O n d : String} {a : Addr} {v : Value} (H : Hr x b Z EL K S h sf pc Ls (.ref a :: st)) (w : (Jvm.Cond.fieldLink b.y.cls index R0 n d).before a0 Z = true) (via : Via Z R0 O n d) (F : Fld Z h a O n d v) (hd : decode b.bytes pc = .ok (.getfield index, 3)) (hpc : pc + 3 = pc' := by rfl) : Hr x b Z EL K S h sf pc' Ls (v :: st) := by
  subst hpc
  exact H.same fun T locs cells slots vm0 X eT hZ hown B => Jvm.RoadKit.getF X B.2.1 hZ hown (host := "") (Or.inl w) via eT F (g := mkF x.m pc Ls (.ref a :: st)) rfl rfl (hb B.2.2.1 hd)
theorem Hr.getS {index : Nat} {O n d : String} {v : Value} (H : Hr x b Z EL K S h sf pc Ls st) (w : (Jvm.Cond.fieldLink b.y.cls index O n d).before a0 Z = true) (F : Sta Z h O n d v) (hd : decode b.bytes pc = .ok (.getstatic index, 3)) (hpc : pc + 3 = pc' := by rfl) : Hr x b Z EL K S h sf pc' Ls (v :: st) := by
  subst hpc
  exact H.same fun T locs cells slots vm0 X eT hZ hown B => Jvm.RoadKit.getS (host := "") X B.2.1 hZ hown w Via.refl eT F (g := mkF x.m pc Ls st) rfl (hb B.2.2.1 hd)
theorem Hr.cast {index : Nat} {C : String} {a : Addr} (H : Hr x b Z EL K S h sf pc Ls (.ref a :: st)) (w : (Jvm.Cond.classLink b.y.cls index C).before a0 Z = true) (F : Ins Z h a C true) (hd : decode b.bytes pc = .ok (.checkcast index, 3)) (hpc : pc + 3 = pc' := by rfl) : Hr x b Z EL K S h sf pc' Ls (.ref a :: st) := by
  subst hpc
  exact H.same fun T locs cells slots vm0 X eT hZ hown B => castY X B.2.1 hZ hown w eT F (g := mkF x.m pc Ls (.ref a :: st)) rfl rfl (hb B.2.2.1 hd)
theorem Hr.inst {index : Nat} {C : String} {a : Addr} (H : Hr x b Z EL K S h sf pc Ls (.ref a :: st)) (w : (Jvm.Cond.classLink b.y.cls index C).before a0 Z = true) (F : Ins Z h a C true) (hd : decode b.bytes pc = .ok (.instanceof index, 3)) (hpc : pc + 3 = pc' := by rfl) : Hr x b Z EL K S h sf pc' Ls (.int 1 :: st) := by
  subst hpc
  exact H.same fun T locs cells slots vm0 X eT hZ hown B => instY X B.2.1 hZ hown w eT F (g := mkF x.m pc Ls (.ref a :: st)) rfl rfl (hb B.2.2.1 hd)
theorem Hr.initO {index : Nat} {a : Addr} (H : Hr x b Z EL K S h sf pc Ls (.ref a :: st)) (w1 : (Jvm.Cond.methodLink b.y.cls index Lib.objectInit).before a0 Z = true) (w2 : (Jvm.Cond.instanceMethod Lib.objectInit).before a0 Z = true) (w3 : (Jvm.Cond.code Lib.objectInit ⟨#[0xb1]⟩ 1 none).before a0 Z = true)
    (hd : decode b.bytes pc = .ok (.invokespecial index, 3)) (hLs : Ls.size = b.maxL := by rfl) (hf : 1 ≤ b.R.frames := by decide) {Wr : Nat} (hW : (st.map fun v => v.category).sum = Wr := by rfl) (hl : Wr + 12 ≤ b.R.locals := by decide) (hpc : pc + 3 = pc' := by rfl) : Hr x b Z EL K S h sf pc' Ls st := by
  subst hpc hW
  exact H.same fun T locs cells slots vm0 X eT hZ hown B => Jvm.RoadKit.initO X B.2.1 hZ hown w1 w2 w3 eT (g := mkF x.m pc Ls (.ref a :: st)) rfl (hLs.trans B.2.2.2.1.symm) rfl (hb B.2.2.1 hd) hf (W := (st.map fun v => v.category).sum) (by show 2 * 0 + _ ≤ _; omega) hl
theorem Hr.putF {index kk : Nat} {O n d C : String} {ty : FieldType} {a : Addr} {v old : Value} (H : Hr x b Z EL K S h sf pc Ls (v :: .ref a :: st)) (ha : a ∈ sf) (w : (Jvm.Cond.fieldLink b.y.cls index O n d).before a0 Z = true) (F : Fld Z h a O n d old) (E : Exa Z h a C)
    (L : (Jvm.Cond.lays C O n d).before a0 Z = true ∨ ((Jvm.Cond.laysFinal C O n d).before a0 Z = true ∧ b.y.cls = O ∧ b.y.name = "<init>")) (wi : (Jvm.Cond.instantiable C kk).before a0 Z = true) (hd : decode b.bytes pc = .ok (.putfield index, 3))
    (hty : parseFieldDescriptor d = some ty := by decide +kernel) (hn : narrow ty v = v := by rfl) (hf : fits ty v = true := by rfl) (hpc : pc + 3 = pc' := by rfl) :
    ∃ h', Wr h h' a (Jvm.RoadKit.slotOf Z O n d) v ∧ Hr x b Z EL K S h' sf pc' Ls st := by
  subst hpc
  exact H.write ha fun T locs cells slots vm0 X eT hZ hown B => Jvm.RoadKit.putF X B.2.1 hZ hown (host := "") (Or.inl w) Via.refl eT F E (L.imp id fun q => ⟨q.1, q.2.1, B.2.2.2.2.2.2.trans q.2.2⟩) wi hty hn hf (g := mkF x.m pc Ls (v :: .ref a :: st)) rfl rfl (hb B.2.2.1 hd)
theorem Hr.new {index n : Nat} {C : String} (H : Hr x b Z EL K S h sf pc Ls st) (w : (Jvm.Cond.classLink b.y.cls index C).before a0 Z = true) (wi : (Jvm.Cond.instantiable C n).before a0 Z = true) (wz : (Jvm.Cond.initialized C).before a0 Z = true) (hd : decode b.bytes pc = .ok (.new index, 3))
    (hc : K + 1 ≤ b.R.cells := by decide) (hl : S + n ≤ b.R.slots := by decide) (hpc : pc + 3 = pc' := by rfl) :
    ∃ h', Ext h h' ∧ (Exa Z h' h.size C ∧ (∀ {O nm d : String} {ty : FieldType}, Laid Z a0 C O nm d → parseFieldDescriptor d = some ty → Fld Z h' h.size O nm d (defaultValue ty)) ∧ Unt h' h.size) ∧ Hr x b Z EL (K + 1) (S + n) h' (h.size :: sf) pc' Ls (.ref h.size :: st) := by
  subst hpc
  refine H.alloc hc hl (P := fun h' => Exa Z h' h.size C ∧ (∀ {O nm d : String} {ty : FieldType}, Laid Z a0 C O nm d → parseFieldDescriptor d = some ty → Fld Z h' h.size O nm d (defaultValue ty)) ∧ Unt h' h.size) (fun h' q => q.1.lt) fun T locs cells slots vm0 X eT hZ hown B hc' hl' => ?_
  obtain ⟨T', h', X', e', E, A, D, U, st1⟩ := newO X B.2.1 hZ hown w wi wz eT (g := mkF x.m pc Ls st) rfl (hb B.2.2.1 hd) hc' hl'
  exact ⟨T', h', X', e', E, ⟨A, D, U⟩, st1⟩
/-! ### ends -/
theorem Hr.fin {Q : Option Value → Heap → List Addr → Prop} {v : Value} {t : FieldType} {i : Instr} {sn : List Addr} (H : Hr x b Z EL K S h sf pc Ls (v :: st)) (hd : decode b.bytes pc = .ok (i, 1)) (hret : b.ret = some t) (hn : narrow t v = v)
    (hi : (i = .ireturn ∧ (t = .int ∨ t = .boolean ∨ t = .byte ∨ t = .char ∨ t = .short) ∧ ∃ z, v = .int z) ∨ (i = .lreturn ∧ t = .long ∧ ∃ z, v = .long z) ∨ (i = .dreturn ∧ t = .double ∧ ∃ z, v = .double z) ∨ (i = .freturn ∧ t = .float ∧ ∃ z, v = .float z) ∨ (i = .areturn ∧ t.isReference = true ∧ v.isRef = true))
    (hK : K ≤ b.R.cells) (hS : S ≤ b.R.slots) (hsn : ∀ a ∈ sn, a ∈ sf) (q : Q (some v) h sn) : Ends x b Z EL Q := by
  obtain ⟨B, T, locs, cells, slots, vm0, k0, ⟨X, h1, h2, h3, h4, h5, h6, h7, h8, h9, h10, h11, h12, h13, h14⟩, k⟩ := H
  have A := CHv.at X h7 B.1.choose_spec h9.1
  obtain ⟨fs, hr, hrun, hended, hW⟩ := (X.mono (Nat.le_trans h1 hK) (Nat.le_trans h2 hS)).leaveW h5 (by rw [h3]; exact h6) (v := some v) (fun z => by rw [B.2.2.2.2.1, hret] at z; cases z) B.2.2.2.2.2.1
  refine ⟨_, _, k _ (retOut X B.2.1 (t := t) (by rw [B.2.2.2.2.1]; exact hret) hn hi (hb B.2.2.1 hd) hr), hrun, hended, some v, locs, sn, rfl, ?_, ?_, fun z hz => ?_, h4, ?_, fun hn => State.WarmedH.trans (t := x.s.setVm vm0) (h13 hn) X.warmed, hW⟩
  · show Q (some v) T.heap sn; rw [h3]; exact q
  · show Keep x.s.heap T.heap x.sf0; rw [h3]; exact h10
  · obtain ⟨z1, z2, z3, z4⟩ := h12 z (hsn z hz)
    refine ⟨z1, z2, ?_, ?_⟩
    · show z < T.heap.size; rw [h3]; exact z3
    · show Safe Z EL T.vm T.heap z; rw [h3]; exact A.safe z3 z4
  · show CHr Z EL x.s.vm x.s.heap T.vm T.heap; rw [h3]; exact h9.trans A
theorem Hr.finN {Q : Option Value → Heap → List Addr → Prop} {sn : List Addr} (H : Hr x b Z EL K S h sf pc Ls []) (hd : decode b.bytes pc = .ok (.return_, 1)) (hret : b.ret = none)
    (hK : K ≤ b.R.cells) (hS : S ≤ b.R.slots) (hsn : ∀ a ∈ sn, a ∈ sf) (q : Q none h sn) : Ends x b Z EL Q := by
  obtain ⟨B, T, locs, cells, slots, vm0, k0, ⟨X, h1, h2, h3, h4, h5, h6, h7, h8, h9, h10, h11, h12, h13, h14⟩, k⟩ := H
  have A := CHv.at X h7 B.1.choose_spec h9.1
  obtain ⟨fs, hr, hrun, hended, hW⟩ := (X.mono (Nat.le_trans h1 hK) (Nat.le_trans h2 hS)).leaveW h5 (by rw [h3]; exact h6) (v := none) (fun _ => rfl) B.2.2.2.2.2.1
  refine ⟨_, _, k _ (X.returnOut B.2.1 (by rw [B.2.2.2.2.1]; exact hret) (hb B.2.2.1 hd) hr), hrun, hended, none, locs, sn, rfl, ?_, ?_, fun z hz => ?_, h4, ?_, fun hn => State.WarmedH.trans (t := x.s.setVm vm0) (h13 hn) X.warmed, hW⟩
  · show Q none T.heap sn; rw [h3]; exact q
  · show Keep x.s.heap T.heap x.sf0; rw [h3]; exact h10
  · obtain ⟨z1, z2, z3, z4⟩ := h12 z (hsn z hz)
    refine ⟨z1, z2, ?_, ?_⟩
    · show z < T.heap.size; rw [h3]; exact z3
    · show Safe Z EL T.vm T.heap z; rw [h3]; exact A.safe z3 z4
  · show CHr Z EL x.s.vm x.s.heap T.vm T.heap; rw [h3]; exact h9.trans A
theorem Hr.finI {Q : Option Value → Heap → List Addr → Prop} {v : Int32} {sn : List Addr} (H : Hr x b Z EL K S h sf pc Ls (.int v :: st)) (hd : decode b.bytes pc = .ok (.ireturn, 1)) (q : Q (some (.int v)) h sn) (hsn : ∀ a ∈ sn, a ∈ sf) (hret : b.ret = some .int := by rfl) (hK : K ≤ b.R.cells := by decide) (hS : S ≤ b.R.slots := by decide) : Ends x b Z EL Q :=
  H.fin hd hret rfl (Or.inl ⟨rfl, Or.inl rfl, _, rfl⟩) hK hS hsn q
theorem Hr.finZ {Q : Option Value → Heap → List Addr → Prop} {v : Int32} {t : FieldType} {sn : List Addr} (H : Hr x b Z EL K S h sf pc Ls (.int v :: st)) (hd : decode b.bytes pc = .ok (.ireturn, 1)) (hn : narrow t (.int v) = .int v) (q : Q (some (.int v)) h sn) (hsn : ∀ a ∈ sn, a ∈ sf) (hret : b.ret = some t := by rfl) (ht : t = .int ∨ t = .boolean ∨ t = .byte ∨ t = .char ∨ t = .short := by simp) (hK : K ≤ b.R.cells := by decide) (hS : S ≤ b.R.slots := by decide) : Ends x b Z EL Q :=
  H.fin hd hret hn (Or.inl ⟨rfl, ht, _, rfl⟩) hK hS hsn q
theorem Hr.finA {Q : Option Value → Heap → List Addr → Prop} {v : Value} {t : FieldType} {sn : List Addr} (H : Hr x b Z EL K S h sf pc Ls (v :: st)) (hd : decode b.bytes pc = .ok (.areturn, 1)) (q : Q (some v) h sn) (hsn : ∀ a ∈ sn, a ∈ sf) (hv : v.isRef = true := by rfl) (hret : b.ret = some t := by rfl) (ht : t.isReference = true := by rfl) (hK : K ≤ b.R.cells := by decide) (hS : S ≤ b.R.slots := by decide) : Ends x b Z EL Q :=
  H.fin hd hret (by rcases ref_cases hv with rfl | ⟨a, rfl⟩ <;> cases t <;> first | rfl | cases ht) (Or.inr (Or.inr (Or.inr (Or.inr ⟨rfl, ht, hv⟩)))) hK hS hsn q
/-! ### calls -/
theorem Hr.callS {y : MethodName} {bytes : ByteArray} {maxL : Nat} {ret : Option FieldType} {rm : Room} {as' : Array Value} {sf' : List Addr} {Q : Option Value → Heap → List Addr → Prop} {index : Nat} {argsL rest : List Value} {ps : List FieldType} {rt : Option FieldType}
    (H : Hr x b Z EL K S h sf pc Ls st) (C : Ct x.l Z EL y bytes maxL ret rm as' h sf' x.nar x.kn Q) (sub : ∀ a ∈ sf', a ∈ sf)
    (w1 : (Jvm.Cond.methodLink b.y.cls index y).before a0 Z = true) (w2 : (Jvm.Cond.static y).before a0 Z = true) (w3 : (Jvm.Cond.initialized y.cls).before a0 Z = true) (w4 : (Jvm.Cond.code y bytes maxL ret).before a0 Z = true)
    (hd : decode b.bytes pc = .ok (.invokestatic index, 3)) (hp : parseMethodDescriptor y.desc = some ⟨ps, rt⟩) (hst : st = argsL.reverse ++ rest) (has : argsL.toArray = as' := by rfl) (hl2 : argsL.length = ps.length := by rfl) (hy : y.cls ≠ "java/lang/invoke/MethodHandle" ∧ y.cls ≠ "java/lang/invoke/VarHandle" := by decide)
    (hf : rm.frames + 1 ≤ b.R.frames := by decide) {Wr : Nat} (hW : (rest.map fun v => v.category).sum = Wr := by rfl) (hl : Wr + (maxL + 11) + rm.locals ≤ b.R.locals := by decide) (hc : K + rm.cells ≤ b.R.cells := by decide) (hs : S + rm.slots ≤ b.R.slots := by decide) (hLs : Ls.size = b.maxL := by rfl) (hpc : pc + 3 = pc' := by rfl) :
    ∃ (v : Option Value) (h' : Heap) (sn : List Addr), Q v h' sn ∧ Keep h h' sf' ∧ Hr x b Z EL (K + rm.cells) (S + rm.slots) h' (sn ++ sf) pc' Ls (v.toList ++ rest) := by
  subst has hpc hW
  obtain ⟨B, T, locs, cells, slots, vm0, k0, X, k⟩ := H
  have X2 := X
  obtain ⟨X1, h1, h2, h3, h4, h5, h6, h7, h8, h9, h10, h11, h12, h13, h14⟩ := X2
  obtain ⟨v, vm₁, P, -, X', hS, hgr, hp', hsteps⟩ := callSS X1 B.2.1 (own := b.y.cls) h8 (mvT h7 w1) (mvT h7 w2) (mvT h7 w3) (mvT h7 w4) hy
    (C.backS (W := (rest.map fun v => v.category).sum) h7 w4 w3 hf hl B.1.choose_spec h9.1 h11 (fun z hz => (h12 z (sub z hz)).2) h14)
    (g := mkF x.m pc Ls st) rfl (hLs.trans B.2.2.2.1.symm) (argsL := argsL) (rest := rest) (lenOf hp hl2) hst (by show 2 * 0 + _ ≤ _; omega) (hb B.2.2.1 hd) (fun vm₁ _ => ⟨rfl, h3, by show cells + _ ≤ _; omega, by show slots + _ ≤ _; omega⟩)
  obtain ⟨h', sn, r1, r2, r3⟩ := Hr.after (rm := rm) (sf' := sf') (Q := Q) B X k sub X' hS hgr hp' hsteps
  exact ⟨v, h', sn, r1, r2, r3⟩
theorem Hr.callI {y : MethodName} {bytes : ByteArray} {maxL : Nat} {rm : Room} {as' : Array Value} {sf' : List Addr} {Q : Option Value → Heap → List Addr → Prop} {index : Nat} {a : Addr} {argsL rest : List Value} {ps : List FieldType} {rt : Option FieldType}
    (H : Hr x b Z EL K S h sf pc Ls st) (C : Ct x.l Z EL y bytes maxL none rm as' h sf' x.nar x.kn Q) (sub : ∀ a ∈ sf', a ∈ sf)
    (w1 : (Jvm.Cond.methodLink b.y.cls index y).before a0 Z = true) (w2 : (Jvm.Cond.instanceMethod y).before a0 Z = true) (w3 : (Jvm.Cond.initialized y.cls).before a0 Z = true) (w4 : (Jvm.Cond.code y bytes maxL none).before a0 Z = true)
    (hd : decode b.bytes pc = .ok (.invokespecial index, 3)) (hp : parseMethodDescriptor y.desc = some ⟨ps, rt⟩) (hst : st = argsL.reverse ++ .ref a :: rest) (has : (Value.ref a :: argsL).toArray = as' := by rfl) (hl2 : argsL.length = ps.length := by rfl) (hy1 : y.name = "<init>" := by rfl) (hy : y.cls ≠ "java/lang/invoke/MethodHandle" ∧ y.cls ≠ "java/lang/invoke/VarHandle" := by decide)
    (hf : rm.frames + 1 ≤ b.R.frames := by decide) {Wr : Nat} (hW : (rest.map fun v => v.category).sum = Wr := by rfl) (hl : Wr + (maxL + 11) + rm.locals ≤ b.R.locals := by decide) (hc : K + rm.cells ≤ b.R.cells := by decide) (hs : S + rm.slots ≤ b.R.slots := by decide) (hLs : Ls.size = b.maxL := by rfl) (hpc : pc + 3 = pc' := by rfl) :
    ∃ (v : Option Value) (h' : Heap) (sn : List Addr), Q v h' sn ∧ Keep h h' sf' ∧ Hr x b Z EL (K + rm.cells) (S + rm.slots) h' (sn ++ sf) pc' Ls (v.toList ++ rest) := by
  subst has hpc hW
  obtain ⟨B, T, locs, cells, slots, vm0, k0, X, k⟩ := H
  have X2 := X
  obtain ⟨X1, h1, h2, h3, h4, h5, h6, h7, h8, h9, h10, h11, h12, h13, h14⟩ := X2
  obtain ⟨v, vm₁, P, -, X', hS, hgr, hp', hsteps⟩ := X1.specialBackS B.2.1 hy1 h8 (mvT h7 w1) (mvT h7 w2) (mvT h7 w4) hy
    (C.backS (W := (rest.map fun v => v.category).sum) h7 w4 w3 hf hl B.1.choose_spec h9.1 h11 (fun z hz => (h12 z (sub z hz)).2) h14)
    (g := mkF x.m pc Ls st) rfl (hLs.trans B.2.2.2.1.symm) (Steps.refl _) (a := a) (argsL := argsL) (rest := rest) (lenOf hp hl2) hst (by show 2 * 0 + _ ≤ _; omega) (hb B.2.2.1 hd) (fun vm₁ _ => ⟨rfl, h3, by show cells + _ ≤ _; omega, by show slots + _ ≤ _; omega⟩)
  obtain ⟨h', sn, r1, r2, r3⟩ := Hr.after (rm := rm) (sf' := sf') (Q := Q) B X k sub X' hS hgr hp' hsteps
  exact ⟨v, h', sn, r1, r2, r3⟩
theorem notFace_by {s : State} {args : Array Value} {C : String} {y y' : MethodName} (ws : (Jvm.Cond.selects C y' y').before args s = true) (hc : y'.cls = y.cls) : NotFace s y := fun r0 h0 => by
  obtain ⟨c2, r2, m2, -, -, q3, -, kP, hkP, hkPi⟩ := Cond.selects_spec ws
  have h1 := findClass_of_methodNamed h0
  have h2 := findClass_of_methodNamed q3
  rw [hc, h1] at h2
  have e : r0.cls = m2.cls := Option.some.inj h2
  rw [← e] at hkP
  exact ⟨kP, hkP, hkPi⟩
theorem Hr.callV {y y' z : MethodName} {bytes : ByteArray} {maxL : Nat} {ret : Option FieldType} {rm : Room} {as' : Array Value} {sf' : List Addr} {Q : Option Value → Heap → List Addr → Prop} {index : Nat} {a : Addr} {cls cls' : String} {argsL rest : List Value} {ps : List FieldType} {rt : Option FieldType}
    (H : Hr x b Z EL K S h sf pc Ls st) (C : Ct x.l Z EL z bytes maxL ret rm as' h sf' x.nar x.kn Q) (sub : ∀ a ∈ sf', a ∈ sf) (E : Exa Z h a cls)
    (w1 : (Jvm.Cond.methodLink b.y.cls index y).before a0 Z = true) (w2 : (Jvm.Cond.declares y).before a0 Z = true) (wn : (Jvm.Cond.selects cls' y' y').before a0 Z = true) (ws : (Jvm.Cond.selects cls y z).before a0 Z = true) (wi : (Jvm.Cond.instanceMethod z).before a0 Z = true) (w3 : (Jvm.Cond.initialized z.cls).before a0 Z = true) (w4 : (Jvm.Cond.code z bytes maxL ret).before a0 Z = true)
    (hd : decode b.bytes pc = .ok (.invokevirtual index, 3)) (hp : parseMethodDescriptor y.desc = some ⟨ps, rt⟩) (hst : st = argsL.reverse ++ .ref a :: rest) (hyc : y'.cls = y.cls := by rfl) (has : (Value.ref a :: argsL).toArray = as' := by rfl) (hl2 : argsL.length = ps.length := by rfl) (hy : y.cls ≠ "java/lang/invoke/MethodHandle" ∧ y.cls ≠ "java/lang/invoke/VarHandle" := by decide)
    (hf : rm.frames + 1 ≤ b.R.frames := by decide) {Wr : Nat} (hW : (rest.map fun v => v.category).sum = Wr := by rfl) (hl : Wr + (maxL + 11) + rm.locals ≤ b.R.locals := by decide) (hc : K + rm.cells ≤ b.R.cells := by decide) (hs : S + rm.slots ≤ b.R.slots := by decide) (hLs : Ls.size = b.maxL := by rfl) (hpc : pc + 3 = pc' := by rfl) :
    ∃ (v : Option Value) (h' : Heap) (sn : List Addr), Q v h' sn ∧ Keep h h' sf' ∧ Hr x b Z EL (K + rm.cells) (S + rm.slots) h' (sn ++ sf) pc' Ls (v.toList ++ rest) := by
  subst has hpc hW
  obtain ⟨B, T, locs, cells, slots, vm0, k0, X, k⟩ := H
  have X2 := X
  obtain ⟨X1, h1, h2, h3, h4, h5, h6, h7, h8, h9, h10, h11, h12, h13, h14⟩ := X2
  obtain ⟨cB, kB, i1, i2, i3⟩ := isOf (s := x.s.setVm vm0) (T := T) h7 h3 E
  obtain ⟨v, vm₁, P, -, X', hS, hgr, hp', hsteps⟩ := X1.virtualBackS B.2.1 (y := y) (z := z) h8 (mvT h7 w1) (mvT h7 w2) (notFace_by (args := #[]) (mvT h7 wn) hyc) (mvT h7 ws) (mvT h7 wi) hy
    (C.backS (W := (rest.map fun v => v.category).sum) h7 w4 w3 hf hl B.1.choose_spec h9.1 h11 (fun z hz => (h12 z (sub z hz)).2) h14) i1 i3
    (g := mkF x.m pc Ls st) rfl (hLs.trans B.2.2.2.1.symm) (Steps.refl _) (argsL := argsL) (rest := rest) (lenOf hp hl2) hst (by show 2 * 0 + _ ≤ _; omega) (hb B.2.2.1 hd) (fun vm₁ _ => ⟨rfl, h3, by show cells + _ ≤ _; omega, by show slots + _ ≤ _; omega⟩)
  obtain ⟨h', sn, r1, r2, r3⟩ := Hr.after (rm := rm) (sf' := sf') (Q := Q) B X k sub X' hS hgr hp' hsteps
  exact ⟨v, h', sn, r1, r2, r3⟩
end Layer2
end Jvm.Pilot.@@N@@
namespace Jvm.Pilot.@@N@@
open Jvm Jvm.ClassFile Sem Op Lib Bundle Jvm.Free Jvm.Stand Jvm.LawKit Jvm.RoadKit
section Layer3
variable {x : Cx} {b : Bx} {Z : State} {EL : List (String × Nat)} {K S : Nat} {h h' : Heap} {sf : List Addr} {pc pc' : Nat} {Ls Ls' : Array Slot} {st st' : List Value} {a0 : Array Value}
/-- an array and all that it holds -/
def Ar (Z : State) (h : Heap) (a : Addr) (ty : FieldType) (vs : List Value) : Prop := ∃ c : Cell, Arr Z h a c ty ∧ c.slots.toList = vs ∧ vs.length < 2147483648
variable {a d : Addr} {ty : FieldType} {vs : List Value} {ws : List Addr} {sl : Nat} {v : Value}
theorem neN {p q : Addr} (h : @Ne Nat p q) : p ≠ q := h
theorem exa_lt {C : String} (F : Exa Z h a C) : h.size > a := F.lt
theorem fld_lt {C n d : String} (F : Fld Z h a C n d v) : h.size > a := F.lt
theorem Ar.lt (F : Ar Z h a ty vs) : h.size > a := by obtain ⟨c, A, -⟩ := F; exact A.lt
theorem Ar.len (F : Ar Z h a ty vs) : vs.length < 2147483648 := by obtain ⟨c, A, -, q⟩ := F; exact q
theorem Ar.ext (F : Ar Z h a ty vs) (E : Ext h h') : Ar Z h' a ty vs := by obtain ⟨c, A, r⟩ := F; exact ⟨c, A.ext E, r⟩
theorem Ar.keep (F : Ar Z h a ty vs) (K : Keep h h' ws) (q : a ∉ ws) : Ar Z h' a ty vs := by obtain ⟨c, A, r⟩ := F; exact ⟨c, ⟨K.2.1 a c A.1 q, A.2⟩, r⟩
theorem Ar.other (F : Ar Z h a ty vs) (W : Wr h h' d sl v) (q : a ≠ d) : Ar Z h' a ty vs := by obtain ⟨c, A, r⟩ := F; exact ⟨c, A.other W q, r⟩
theorem Ar.set (F : Ar Z h a ty vs) (W : Wr h h' a sl v) : Ar Z h' a ty (vs.set sl v) := by
  obtain ⟨c, A, r1, r2⟩ := F
  exact ⟨_, A.same W, by subst r1; simp [Cell.setSlot], by simpa using r2⟩
theorem Ar.of_new {k : ClassId} {n : Int32} (A : Arr Z h a (newA k ty n) ty) (hn : ¬ n < 0) : Ar Z h a ty (List.replicate n.toNatClampNeg (defaultValue ty)) :=
  ⟨_, A, by simp [newA], by have := (back32 hn).2; simpa using this⟩
theorem Ar.of_arv {k : ClassId} {z : Int32} {dv : Value} (F : Arv Z h a k ty z vs dv) (hz : z.toNatClampNeg = vs.length) : Ar Z h a ty vs := by
  obtain ⟨c, A, -, r2, r3, r4, -⟩ := F
  refine ⟨c, A, ?_, by have := (back32 r3).2; omega⟩
  apply List.ext_getElem?
  intro i
  by_cases hi : i < vs.length
  · have := r4 i (by omega)
    rw [Array.getElem?_toList, this]
    simp [List.getD, hi]
  · rw [List.getElem?_eq_none (by rw [Array.length_toList]; omega), List.getElem?_eq_none (by omega)]
theorem Ar.at {c : Cell} {i : Nat} {j : Int32} (hc : c.slots.toList = vs) (hl : vs.length < 2147483648) (hj : j = Int32.ofNat i) (hv : vs[i]? = some v) : ¬ (j < 0 ∨ c.slots.size ≤ j.toNatClampNeg) ∧ j.toNatClampNeg = i ∧ c.slots[j.toNatClampNeg]? = some v := by
  obtain ⟨hi, -⟩ := List.getElem?_eq_some_iff.mp hv
  have hs : c.slots.size = vs.length := by rw [← hc, Array.length_toList]
  have h2 : j.toNatClampNeg = i := clamp_of hj (by omega)
  exact ⟨by rw [hs]; exact within hj hi (by omega), h2, by rw [h2, ← Array.getElem?_toList, hc]; exact hv⟩
theorem Hr.arraylength {n : Int32} (H : Hr x b Z EL K S h sf pc Ls (.ref a :: st)) (A : Ar Z h a ty vs) (hd : decode b.bytes pc = .ok (.arraylength, 1)) (hn : Int32.ofNat vs.length = n := by rfl) (hpc : pc + 1 = pc' := by rfl) : Hr x b Z EL K S h sf pc' Ls (.int n :: st) := by
  subst hpc hn
  obtain ⟨c, A1, r1, r2⟩ := A
  refine H.same fun T locs cells slots vm0 X eT hZ hown B => ⟨T, X, eT, fun t q => X.arraylength B.2.1 (cell := c) (ty := ty) (by rw [eT]; exact A1.1) (State.isArrayOf_alike hZ.alike A1.2.1) (g := mkF x.m pc Ls (.ref a :: st)) rfl rfl (hb B.2.2.1 hd) t ?_⟩
  have e : c.slots.size.toInt32 = Int32.ofNat vs.length := by rw [← r1, Array.length_toList]
  rw [e]; exact q
theorem Hr.caload {i : Nat} {j : Int32} (H : Hr x b Z EL K S h sf pc Ls (.int j :: .ref a :: st)) (A : Ar Z h a .char vs) (hd : decode b.bytes pc = .ok (.caload, 1)) (hj : j = Int32.ofNat i) (hv : vs[i]? = some v) (hpc : pc + 1 = pc' := by rfl) : Hr x b Z EL K S h sf pc' Ls (v :: st) := by
  subst hpc
  obtain ⟨c, A1, r1, r2⟩ := A
  obtain ⟨q1, q2, q3⟩ := Ar.at r1 r2 hj hv
  exact H.same fun T locs cells slots vm0 X eT hZ hown B => ⟨T, X, eT, fun t q => X.caload B.2.1 (cell := c) (by rw [eT]; exact A1.1) (State.isArrayOf_alike hZ.alike A1.2.1) A1.2.2 q1 q3 (g := mkF x.m pc Ls (.int j :: .ref a :: st)) rfl rfl (hb B.2.2.1 hd) t q⟩
theorem Hr.baload {i : Nat} {j : Int32} (H : Hr x b Z EL K S h sf pc Ls (.int j :: .ref a :: st)) (A : Ar Z h a .byte vs) (hd : decode b.bytes pc = .ok (.baload, 1)) (hj : j = Int32.ofNat i) (hv : vs[i]? = some v) (hpc : pc + 1 = pc' := by rfl) : Hr x b Z EL K S h sf pc' Ls (v :: st) := by
  subst hpc
  obtain ⟨c, A1, r1, r2⟩ := A
  obtain ⟨q1, q2, q3⟩ := Ar.at r1 r2 hj hv
  exact H.same fun T locs cells slots vm0 X eT hZ hown B => ⟨T, X, eT, fun t q => X.baloadBytes B.2.1 (cell := c) (by rw [eT]; exact A1.1) (State.isArrayOf_alike hZ.alike A1.2.1) A1.2.2 q1 q3 (g := mkF x.m pc Ls (.int j :: .ref a :: st)) rfl rfl (hb B.2.2.1 hd) t q⟩
theorem Hr.iaload {i : Nat} {j : Int32} (H : Hr x b Z EL K S h sf pc Ls (.int j :: .ref a :: st)) (A : Ar Z h a .int vs) (hd : decode b.bytes pc = .ok (.iaload, 1)) (hj : j = Int32.ofNat i) (hv : vs[i]? = some v) (hpc : pc + 1 = pc' := by rfl) : Hr x b Z EL K S h sf pc' Ls (v :: st) := by
  subst hpc
  obtain ⟨c, A1, r1, r2⟩ := A
  obtain ⟨q1, q2, q3⟩ := Ar.at r1 r2 hj hv
  exact H.same fun T locs cells slots vm0 X eT hZ hown B => ⟨T, X, eT, fun t q => X.iaload B.2.1 (cell := c) (by rw [eT]; exact A1.1) (State.isArrayOf_alike hZ.alike A1.2.1) A1.2.2 q1 q3 (g := mkF x.m pc Ls (.int j :: .ref a :: st)) rfl rfl (hb B.2.2.1 hd) t q⟩
theorem Hr.aaload {i : Nat} {j : Int32} (H : Hr x b Z EL K S h sf pc Ls (.int j :: .ref a :: st)) (A : Ar Z h a ty vs) (hd : decode b.bytes pc = .ok (.aaload, 1)) (hj : j = Int32.ofNat i) (hv : vs[i]? = some v) (hty : ty.isReference = true := by rfl) (hpc : pc + 1 = pc' := by rfl) : Hr x b Z EL K S h sf pc' Ls (v :: st) := by
  subst hpc
  obtain ⟨c, A1, r1, r2⟩ := A
  obtain ⟨q1, q2, q3⟩ := Ar.at r1 r2 hj hv
  exact H.same fun T locs cells slots vm0 X eT hZ hown B => ⟨T, X, eT, fun t q => X.aaload B.2.1 (cell := c) (by rw [eT]; exact A1.1) (State.isArrayOf_alike hZ.alike A1.2.1) hty A1.2.2 q1 q3 (g := mkF x.m pc Ls (.int j :: .ref a :: st)) rfl rfl (hb B.2.2.1 hd) t q⟩
theorem Hr.castore {i : Nat} {j u w : Int32} (H : Hr x b Z EL K S h sf pc Ls (.int u :: .int j :: .ref a :: st)) (ha : a ∈ sf) (A : Ar Z h a .char vs) (hd : decode b.bytes pc = .ok (.castore, 1)) (hj : j = Int32.ofNat i) (hi : i < vs.length) (hw : nar .char u = w := by rfl) (hpc : pc + 1 = pc' := by rfl) :
    ∃ h', Wr h h' a i (.int w) ∧ Hr x b Z EL K S h' sf pc' Ls st := by
  subst hpc hw
  obtain ⟨c, A1, r1, r2⟩ := A
  obtain ⟨q1, q2, q3⟩ := Ar.at r1 r2 hj (List.getElem?_eq_getElem hi)
  rw [← q2]
  exact H.write ha fun T locs cells slots vm0 X eT hZ hown B => stC X B.2.1 hZ eT A1 q1 (g := mkF x.m pc Ls (.int u :: .int j :: .ref a :: st)) rfl rfl (hb B.2.2.1 hd)
theorem Hr.bastore {i : Nat} {j u w : Int32} (H : Hr x b Z EL K S h sf pc Ls (.int u :: .int j :: .ref a :: st)) (ha : a ∈ sf) (A : Ar Z h a .byte vs) (hd : decode b.bytes pc = .ok (.bastore, 1)) (hj : j = Int32.ofNat i) (hi : i < vs.length) (hw : nar .byte u = w := by rfl) (hpc : pc + 1 = pc' := by rfl) :
    ∃ h', Wr h h' a i (.int w) ∧ Hr x b Z EL K S h' sf pc' Ls st := by
  subst hpc hw
  obtain ⟨c, A1, r1, r2⟩ := A
  obtain ⟨q1, q2, q3⟩ := Ar.at r1 r2 hj (List.getElem?_eq_getElem hi)
  rw [← q2]
  exact H.write ha fun T locs cells slots vm0 X eT hZ hown B => stB X B.2.1 hZ eT A1 q1 (g := mkF x.m pc Ls (.int u :: .int j :: .ref a :: st)) rfl rfl (hb B.2.2.1 hd)
theorem Hr.iastore {i : Nat} {j u : Int32} (H : Hr x b Z EL K S h sf pc Ls (.int u :: .int j :: .ref a :: st)) (ha : a ∈ sf) (A : Ar Z h a .int vs) (hd : decode b.bytes pc = .ok (.iastore, 1)) (hj : j = Int32.ofNat i) (hi : i < vs.length) (hpc : pc + 1 = pc' := by rfl) :
    ∃ h', Wr h h' a i (.int u) ∧ Hr x b Z EL K S h' sf pc' Ls st := by
  subst hpc
  obtain ⟨c, A1, r1, r2⟩ := A
  obtain ⟨q1, q2, q3⟩ := Ar.at r1 r2 hj (List.getElem?_eq_getElem hi)
  rw [← q2]
  exact H.write ha fun T locs cells slots vm0 X eT hZ hown B => stI X B.2.1 hZ eT A1 q1 (g := mkF x.m pc Ls (.int u :: .int j :: .ref a :: st)) rfl rfl (hb B.2.2.1 hd)
theorem Hr.newarray {aty : ArrayType} {n : Int32} {cap : Nat} (H : Hr x b Z EL K S h sf pc Ls (.int n :: st)) (w : (Jvm.Cond.arrayClass (newarray.typeOf aty)).before a0 Z = true) (hd : decode b.bytes pc = .ok (.newarray aty, 2)) (hn : ¬ n < 0) (hcap : n.toNatClampNeg ≤ cap) (hb8 : cap * 8 ≤ 536870912)
    (hc : K + 1 ≤ b.R.cells := by decide) (hl : S + cap ≤ b.R.slots := by decide) (hpc : pc + 2 = pc' := by rfl) :
    ∃ h', Ext h h' ∧ Ar Z h' h.size (newarray.typeOf aty) (List.replicate n.toNatClampNeg (defaultValue (newarray.typeOf aty))) ∧ Hr x b Z EL (K + 1) (S + cap) h' (h.size :: sf) pc' Ls (.ref h.size :: st) := by
  subst hpc
  refine H.alloc hc hl (P := fun h' => Ar Z h' h.size (newarray.typeOf aty) (List.replicate n.toNatClampNeg (defaultValue (newarray.typeOf aty)))) (fun h' q => q.lt) fun T locs cells slots vm0 X eT hZ hown B hc' hl' => ?_
  obtain ⟨T', h', cA, X', e', E, A, st1⟩ := newP X B.2.1 hZ w eT (g := mkF x.m pc Ls (.int n :: st)) rfl (hb B.2.2.1 hd) rfl hn hcap hb8 hc' hl'
  exact ⟨T', h', X', e', E, Ar.of_new A hn, st1⟩
/-! ### Strings -/
abbrev ST : String := "java/lang/String"
/-- a Latin-1 String: its value array lies at t and holds the bytes bs -/
def Str (Z : State) (h : Heap) (a t : Addr) (bs : List Int32) : Prop := Exa Z h a ST ∧ Fld Z h a ST "coder" "B" (.int 0) ∧ Fld Z h a ST "value" "[B" (.ref t) ∧ Ar Z h t .byte (bs.map Value.int)
variable {t : Addr} {bs : List Int32}
theorem Str.ext (F : Str Z h a t bs) (E : Ext h h') : Str Z h' a t bs := ⟨F.1.ext E, F.2.1.ext E, F.2.2.1.ext E, F.2.2.2.ext E⟩
theorem Str.keep (F : Str Z h a t bs) (K : Keep h h' ws) (q : a ∉ ws) (q' : t ∉ ws) : Str Z h' a t bs := ⟨F.1.keep K, F.2.1.keep K q, F.2.2.1.keep K q, F.2.2.2.keep K q'⟩
theorem Str.other (F : Str Z h a t bs) (W : Wr h h' d sl v) (q : a ≠ d) (q' : t ≠ d) : Str Z h' a t bs := ⟨F.1.wr W, F.2.1.other W (Or.inl q), F.2.2.1.other W (Or.inl q), F.2.2.2.other W q'⟩
theorem Str.lt (F : Str Z h a t bs) : h.size > a := F.1.lt
theorem Str.lt' (F : Str Z h a t bs) : h.size > t := F.2.2.2.lt
theorem Str.len (F : Str Z h a t bs) : bs.length < 2147483648 := by have := F.2.2.2.len; simpa using this
/-- ldc of a String constant, its text read -/
theorem Hr.ldcS {index n : Nat} {text : String} {z : Int32} (H : Hr x b Z EL K S h sf pc Ls st) (w : (Jvm.Cond.stringLink b.y.cls index text).before a0 Z = true) (wS : ∀ d ∈ Bundle.stringAtoms, d.before a0 Z = true) (hEL : EW Z a0 EL) (hmem : (b.y.cls, index) ∈ EL)
    (ht : (∀ c ∈ text.toList, c.toNat < 256) ∧ text.toList.map (fun c => Jvm.Lit.byteI c.toNat.toUInt16) = bs) (hz : ¬ z < 0) (hl : z.toNatClampNeg = bs.length) (hd : decode b.bytes pc = .ok (.ldc index, 2)) (hn : 4 * text.toList.length ≤ n) (hbig : n ≤ 536870912)
    (hnar : x.nar = false) (hc : K + 2 ≤ b.R.cells := by decide) (hl' : S + (n + 4) ≤ b.R.slots := by decide) (hpc : pc + 2 = pc' := by rfl) :
    ∃ (a t : Addr) (h' : Heap), Ext h h' ∧ Str Z h' a t bs ∧ (∀ y ∈ sf, y ≠ a ∧ y ≠ t) ∧ Hr x b Z EL (K + 2) (S + (n + 4)) h' sf pc' Ls (.ref a :: st) := by
  subst hpc
  obtain ⟨B, T, locs, cells, slots, vm0, k0, ⟨X, h1, h2, h3, h4, h5, h6, h7, h8, h9, h10, h11, h12, h13, h14⟩, k⟩ := H
  obtain ⟨a, T', h', k1, b', kc, X', e', E, hS, hk, hW, hf, g1, g2, g3, g4, g5, g6, hC, -, hsafe, st1⟩ := ldcCH X B.2.1 h7 h8 w wS h3 h5 h6 hEL hmem h9.1 (vs := bs.map Value.int) ⟨ht.1, by rw [← ht.2]; simp⟩ hz (by simpa using hl) (g := mkF x.m pc Ls st) rfl (hb B.2.2.1 hd) hn hbig (by omega) (by omega)
  have hm : ∀ y ∈ sf, Mine x Z EL T'.vm h' y := fun y hy => by
    obtain ⟨y1, y2, y3, y4⟩ := h12 y hy
    exact ⟨y1, y2, Nat.lt_of_lt_of_le y3 E.1, hC.safe y3 y4⟩
  refine ⟨a, b', h', E, ⟨g1, g2, g3, Ar.of_arv g4 (by simpa using hl)⟩, fun y hy => hsafe y (hm y hy).2.2.2, B, T', locs, _, _, T'.vm, k1, ⟨X', by omega, by omega, e', h4, hS, hk, hW, hf, h9.trans hC, h10.ext E, Ext.tr h11 E, hm, fun hn => ?_, fun hk => ?_⟩, fun t q => k t (st1 t q)⟩
  · rw [hnar] at hn; cases hn
  · have hal : vm0.Alike T'.vm := h7.alike.symm.trans hW.alike
    exact ⟨Vm.MethodsKnown.alikeC hal (h14 hk).1, Vm.FramesKnown.alikeC hal (h14 hk).2⟩
end Layer3
end Jvm.Pilot.@@N@@
namespace Jvm.Pilot.@@N@@
open Jvm Jvm.ClassFile Sem Op Lib Bundle Jvm.Free Jvm.Stand Jvm.LawKit Jvm.RoadKit
section Layer4
variable {x : Cx} {b : Bx} {Z : State} {EL : List (String × Nat)} {K S : Nat} {h h' : Heap} {sf : List Addr} {pc pc' : Nat} {Ls Ls' : Array Slot} {st st' : List Value} {a0 : Array Value} {a : Addr}
theorem Hr.instNull {index : Nat} (H : Hr x b Z EL K S h sf pc Ls (.null :: st)) (hd : decode b.bytes pc = .ok (.instanceof index, 3)) (hpc : pc + 3 = pc' := by rfl) : Hr x b Z EL K S h sf pc' Ls (.int 0 :: st) := by
  subst hpc
  exact H.same fun T locs cells slots vm0 X eT hZ hown B => ⟨T, X, eT, X.instanceofNull B.2.1 (g := mkF x.m pc Ls (.null :: st)) rfl rfl (hb B.2.2.1 hd)⟩
/-- clone() of an array that stood at the law's start -/
theorem Hr.clone {index cap : Nat} {ad : String} {cl : Cell} {ty : FieldType} (H : Hr x b Z EL K S h sf pc Ls (.ref a :: st))
    (w1 : (Jvm.Cond.methodLink b.y.cls index ⟨ad, "clone", "()Ljava/lang/Object;"⟩).before a0 Z = true) (w2 : (Jvm.Cond.sameMethod ad "java/lang/Object" "clone" "()Ljava/lang/Object;").before a0 Z = true) (w3 : (Jvm.Cond.native ⟨"java/lang/Object", "clone", "()Ljava/lang/Object;"⟩).before a0 Z = true)
    (w4 : (Jvm.Cond.instanceMethod ⟨"java/lang/Object", "clone", "()Ljava/lang/Object;"⟩).before a0 Z = true) (w5 : (Jvm.Cond.selects ad ⟨ad, "clone", "()Ljava/lang/Object;"⟩ ⟨"java/lang/Object", "clone", "()Ljava/lang/Object;"⟩).before a0 Z = true) (w6 : (Jvm.Cond.castable ad "java/lang/Cloneable").before a0 Z = true)
    (A : Arr Z h a cl ty) (E : Exa Z h a ad) (F : FitC Z cl) (hd : decode b.bytes pc = .ok (.invokevirtual index, 3)) (hcap : cl.slots.size ≤ cap) (hlen : cl.slots.size < 2147483648)
    (hf : 1 ≤ b.R.frames := by decide) {Wr : Nat} (hW : (st.map fun v => v.category).sum = Wr := by rfl) (hl : Wr + 14 ≤ b.R.locals := by decide) (hc : K + 1 ≤ b.R.cells := by decide) (hs : S + cap ≤ b.R.slots := by decide) (hLs : Ls.size = b.maxL := by rfl) (hpc : pc + 3 = pc' := by rfl) :
    ∃ h', Ext h h' ∧ (Ar Z h' h.size ty cl.slots.toList ∧ Exa Z h' h.size ad) ∧ Hr x b Z EL (K + 1) (S + cap) h' (h.size :: sf) pc' Ls (.ref h.size :: st) := by
  subst hpc hW
  refine H.alloc hc hs (P := fun h' => Ar Z h' h.size ty cl.slots.toList ∧ Exa Z h' h.size ad) (fun h' q => q.1.lt) fun T locs cells slots vm0 X eT hZ hown B hc' hl' => ?_
  obtain ⟨T', h', X', e', E', A', X2, st1⟩ := cloneA X B.2.1 hZ hown w1 w2 w3 w4 w5 w6 eT A E F (g := mkF x.m pc Ls (.ref a :: st)) rfl (hLs.trans B.2.2.2.1.symm) rfl (hb B.2.2.1 hd) hf (W := (st.map fun v => v.category).sum) (by show 2 * 0 + _ ≤ _; omega) hl hcap hc' hl'
  exact ⟨T', h', X', e', E', ⟨⟨_, A', rfl, by rw [Array.length_toList]; exact hlen⟩, X2⟩, st1⟩
end Layer4
end Jvm.Pilot.@@N@@
namespace Jvm.Pilot.@@N@@
open Jvm Jvm.ClassFile Sem Op Lib Bundle Jvm.Free Jvm.Stand Jvm.LawKit Jvm.RoadKit
section Layer5
variable {x : Cx} {b : Bx} {Z : State} {EL : List (String × Nat)} {K S : Nat} {h h' : Heap} {sf : List Addr} {pc pc' : Nat} {Ls Ls' : Array Slot} {st st' : List Value} {a0 : Array Value} {a d : Addr}
/-- a step of the library that writes one cell of the walk's, as often as it likes -/
theorem Hr.keepW {P : Heap → Prop} (H : Hr x b Z EL K S h sf pc Ls st) (ha : d ∈ sf)
    (f : ∀ (T : State) (locs : List Loc) (cells slots : Nat) (vm0 : Vm), Stand x.p x.l x.e b.R (x.s.setVm vm0) x.m x.args x.below x.meth x.c T locs cells slots → T.heap = h → Z.Warmed39 (x.s.setVm vm0).vm → (x.s.setVm vm0).vm.findClass b.y.cls = some x.m.cls → Bs x b Z EL → Fr Z.heap.size locs → Z.heap.size ≤ d →
      ∃ T' h' L, Stand x.p x.l x.e b.R (x.s.setVm vm0) x.m x.args x.below x.meth x.c T' L cells slots ∧ T'.heap = h' ∧ Fr Z.heap.size L ∧ Keep h h' [d] ∧ P h' ∧ ∀ target, Steps x.p.tables x.e x.below (T'.setTop (mkF x.m pc' Ls' st')) target → Steps x.p.tables x.e x.below (T.setTop (mkF x.m pc Ls st)) target) :
    ∃ h', Keep h h' [d] ∧ P h' ∧ Hr x b Z EL K S h' sf pc' Ls' st' := by
  obtain ⟨B, T, locs, cells, slots, vm0, k0, ⟨X, h1, h2, h3, h4, h5, h6, h7, h8, h9, h10, h11, h12, h13, h14⟩, k⟩ := H
  have hm := h12 d ha
  obtain ⟨T', h', L, X', e', N, W, hp, st1⟩ := f T locs cells slots vm0 X h3 h7 h8 B h4 hm.2.1
  have hs : ∀ z ∈ [d], Safe Z EL vm0 h z := fun z hz => by cases List.mem_singleton.mp hz; exact hm.2.2.2
  refine ⟨h', W, hp, B, T', L, cells, slots, vm0, k0, ⟨X', h1, h2, e', N, h5, Nat.le_trans h6 W.1, h7, h8, h9.trans (CHr.keep W hs h9.1), h10.trans W (fun z hz => by cases List.mem_singleton.mp hz; exact hm.1), Ext.ofKeep h11 W (allS hm.2.1 all0), fun y hy => ?_, h13, h14⟩, fun t q => k t (st1 t q)⟩
  obtain ⟨y1, y2, y3, y4⟩ := h12 y hy
  exact ⟨y1, y2, Nat.lt_of_lt_of_le y3 W.1, Safe.keep W hs h9.1 y4⟩
theorem Ar.arv {ty : FieldType} {vs : List Value} {dv : Value} (F : Ar Z h a ty vs) (hf : ∀ v ∈ vs, fits ty v = true) : ∃ k, Arv Z h a k ty (Int32.ofNat vs.length) vs dv := by
  obtain ⟨c, A, r1, r2⟩ := F
  have hs : c.slots.size = vs.length := by rw [← r1, Array.length_toList]
  refine ⟨c.cls, c, A, rfl, by rw [hs]; exact (clamp_of rfl (by omega)).symm, by rw [Int32.lt_iff_toInt_lt, toInt_of rfl (by omega)]; simp, fun i hi => ?_, fun i hi => ?_⟩
  · rw [← Array.getElem?_toList, r1, List.getElem?_eq_getElem (by omega)]; simp [List.getD, show i < vs.length by omega]
  · have hi' : i < vs.length := by omega
    simp [List.getD, hi']; exact hf _ (List.getElem_mem hi')
theorem nn32 {n : Nat} (h : n < 2147483648) : ¬ Int32.ofNat n < 0 := by rw [Int32.lt_iff_toInt_lt, toInt_of rfl (by omega)]; simp
/-- System.arraycopy between arrays of one plain kind -/
theorem Hr.arraycopy {index i j n : Nat} {ty : FieldType} {vs ws : List Value} (H : Hr x b Z EL K S h sf pc Ls (.int (Int32.ofNat n) :: .int (Int32.ofNat j) :: .ref d :: .int (Int32.ofNat i) :: .ref a :: st)) (hds : d ∈ sf)
    (w1 : (Jvm.Cond.methodLink b.y.cls index Jvm.Stand.acN).before a0 Z = true) (w2 : (Jvm.Cond.native Jvm.Stand.acN).before a0 Z = true) (w3 : (Jvm.Cond.static Jvm.Stand.acN).before a0 Z = true) (w4 : (Jvm.Cond.initialized "java/lang/System").before a0 Z = true)
    (A : Ar Z h a ty vs) (D : Ar Z h d ty ws) (hty : refKind ty = false) (hfa : ∀ v ∈ vs, fits ty v = true) (hfd : ∀ v ∈ ws, fits ty v = true) (h1 : i + n ≤ vs.length) (h2 : j + n ≤ ws.length) (hd : decode b.bytes pc = .ok (.invokestatic index, 3))
    (hf : 1 ≤ b.R.frames := by decide) {Wr : Nat} (hW : (st.map fun v => v.category).sum = Wr := by rfl) (hl : Wr + 18 ≤ b.R.locals := by decide) (hLs : Ls.size = b.maxL := by rfl) (hpc : pc + 3 = pc' := by rfl) :
    ∃ h', Keep h h' [d] ∧ Ar Z h' d ty (ws.take j ++ (vs.drop i).take n ++ ws.drop (j + n)) ∧ Hr x b Z EL K S h' sf pc' Ls st := by
  subst hpc hW
  have la := A.len
  have ld := D.len
  obtain ⟨k1, A1⟩ := A.arv (dv := .int 0) hfa
  obtain ⟨k2, D1⟩ := D.arv (dv := .int 0) hfd
  have ci := clamp_of (n := Int32.ofNat i) rfl (show i < 2 ^ 31 by omega)
  have cj := clamp_of (n := Int32.ofNat j) rfl (show j < 2 ^ 31 by omega)
  have cn := clamp_of (n := Int32.ofNat n) rfl (show n < 2 ^ 31 by omega)
  have ca := clamp_of (n := Int32.ofNat vs.length) rfl (show vs.length < 2 ^ 31 by omega)
  have cd := clamp_of (n := Int32.ofNat ws.length) rfl (show ws.length < 2 ^ 31 by omega)
  have hus : (List.range n).map (fun q => vs.getD (i + q) (.int 0)) = (vs.drop i).take n := by
    apply List.ext_getElem
    · simp; omega
    · intro q q1 q2
      simp at q1 q2
      simp [List.getD, show i + q < vs.length by omega]
  refine H.keepW hds (P := fun h' => Ar Z h' d ty (ws.take j ++ (vs.drop i).take n ++ ws.drop (j + n))) fun T locs cells slots vm0 X eT hZ hown B N ge => ?_
  obtain ⟨T', h', L, X', e', N', W, F', st1⟩ := cpA X B.2.1 hZ hown w1 w2 w3 w4 eT A1 D1 (us := (vs.drop i).take n) (Or.inl ⟨rfl, hty⟩) (nn32 (by omega)) (nn32 (by omega)) (nn32 (by omega)) (by rw [ci, cn, ca]; exact h1) (by rw [cj, cn, cd]; exact h2) (by rw [ci, cn]; exact hus.symm) (by rw [cj, cn]; exact h2) N ge
    (g := mkF x.m pc Ls (.int (Int32.ofNat n) :: .int (Int32.ofNat j) :: .ref d :: .int (Int32.ofNat i) :: .ref a :: st)) rfl (hLs.trans B.2.2.2.1.symm) rfl (hb B.2.2.1 hd) hf (W := (st.map fun v => v.category).sum) (by show 2 * 0 + _ ≤ _; omega) (by show _ + (_ + 11) ≤ _; exact hl)
  rw [cj, cn] at F'
  refine ⟨T', h', L, X', e', N', W, Ar.of_arv F' (by rw [cd]; simp; omega), st1⟩
/-- a private method of the receiver's class (or above it), by invokevirtual -/
theorem Hr.callP {y y' : MethodName} {bytes : ByteArray} {maxL : Nat} {ret : Option FieldType} {rm : Room} {as' : Array Value} {sf' : List Addr} {Q : Option Value → Heap → List Addr → Prop} {index : Nat} {cls cls' : String} {argsL rest : List Value} {ps : List FieldType} {rt : Option FieldType}
    (H : Hr x b Z EL K S h sf pc Ls st) (C : Ct x.l Z EL y bytes maxL ret rm as' h sf' x.nar x.kn Q) (sub : ∀ a ∈ sf', a ∈ sf) (E : Exa Z h a cls)
    (w1 : (Jvm.Cond.methodLink b.y.cls index y).before a0 Z = true) (wi : (Jvm.Cond.instanceMethod y).before a0 Z = true) (ws : (Jvm.Cond.selects cls' y' y').before a0 Z = true) (wp : (Jvm.Cond.privateMethod y).before a0 Z = true) (w3 : (Jvm.Cond.initialized y.cls).before a0 Z = true) (w4 : (Jvm.Cond.code y bytes maxL ret).before a0 Z = true)
    (hd : decode b.bytes pc = .ok (.invokevirtual index, 3)) (hp : parseMethodDescriptor y.desc = some ⟨ps, rt⟩) (hst : st = argsL.reverse ++ .ref a :: rest) (hyc : y'.cls = y.cls := by rfl) (has : (Value.ref a :: argsL).toArray = as' := by rfl) (hl2 : argsL.length = ps.length := by rfl) (hy : y.cls ≠ "java/lang/invoke/MethodHandle" ∧ y.cls ≠ "java/lang/invoke/VarHandle" := by decide)
    (hf : rm.frames + 1 ≤ b.R.frames := by decide) {Wr : Nat} (hW : (rest.map fun v => v.category).sum = Wr := by rfl) (hl : Wr + (maxL + 11) + rm.locals ≤ b.R.locals := by decide) (hc : K + rm.cells ≤ b.R.cells := by decide) (hs : S + rm.slots ≤ b.R.slots := by decide) (hLs : Ls.size = b.maxL := by rfl) (hpc : pc + 3 = pc' := by rfl) :
    ∃ (v : Option Value) (h' : Heap) (sn : List Addr), Q v h' sn ∧ Keep h h' sf' ∧ Hr x b Z EL (K + rm.cells) (S + rm.slots) h' (sn ++ sf) pc' Ls (v.toList ++ rest) := by
  subst has hpc hW
  obtain ⟨B, T, locs, cells, slots, vm0, k0, X, k⟩ := H
  have X2 := X
  obtain ⟨X1, h1, h2, h3, h4, h5, h6, h7, h8, h9, h10, h11, h12, h13, h14⟩ := X2
  obtain ⟨cq, q1, q2⟩ := E.cell
  obtain ⟨mk, methM, hnamed, hmethM, hstM, habM⟩ := Cond.instanceMethod_spec (mv (args := x.args) (s := x.s.setVm vm0) h7 wi)
  obtain ⟨methM', cM, hmethM', -, -, -, -, -, -, hsigM⟩ := Cond.code_spec hnamed (mv (args := x.args) (s := x.s.setVm vm0) h7 w4)
  cases hmethM.symm.trans hmethM'
  obtain ⟨c2, r2, m2, -, -, q3, -, kP, hkP, hkPi⟩ := Cond.selects_spec (mv (args := x.args) (s := x.s.setVm vm0) h7 ws)
  have hcn := findClass_of_methodNamed hnamed
  have hcn' := findClass_of_methodNamed q3
  rw [hyc, hcn] at hcn'
  have e : mk.cls = m2.cls := Option.some.inj hcn'
  rw [← e] at hkP
  have hselP : selectMethod x.e.platform (x.s.setVm vm0).vm cq.cls mk = .method mk := selectMethod_private hmethM (Cond.privateMethod_at (mvP (s := x.s.setVm vm0) h7 wp (args := #[])) mk methM hnamed hmethM)
  obtain ⟨vm₁, X₁, hstep₁⟩ := X1.invokevirtual B.2.1 h8 (mvT h7 w1) hnamed hmethM hstM hkP hkPi hy (a := a) (cell := cq) (by rw [h3]; exact q1) q2 hselP hmethM habM hkP hkPi (g := mkF x.m pc Ls st) rfl (argsL := argsL) (rest := rest) (lenOf hp hl2 _ hsigM) hst (hb B.2.2.1 hd)
  have hW₁ : (x.s.setVm vm0).WarmedH vm₁ := X₁.warmed
  obtain ⟨v, P, X', hS, hgr, hp', hsteps⟩ := (C.backS (p := x.p) (e := x.e) (R := b.R) (below := x.below) (s := x.s) (args := x.args) (len := 3) (W := (rest.map fun v => v.category).sum) h7 w4 w3 hf hl B.1.choose_spec h9.1 h11 (fun z hz => (h12 z (sub z hz)).2) h14) x.m x.meth x.c ⟨T.setVm vm₁, locs, cells, slots⟩ (mkF x.m pc Ls rest) (.invokevirtual index) mk (.ref a :: argsL).toArray X₁ rfl (hLs.trans B.2.2.2.1.symm) (hb B.2.2.1 hd) (by show 2 * 0 + (rest.map fun v => v.category).sum ≤ (rest.map fun v => v.category).sum; omega) (X₁.named hnamed) ⟨rfl, h3, by show cells + _ ≤ _; omega, by show slots + _ ≤ _; omega⟩
  obtain ⟨h', sn, r1, r2, r3⟩ := Hr.after (rm := rm) (sf' := sf') (Q := Q) (pc' := pc + 3) (st' := v.toList ++ rest) B X k sub X' hS hgr hp' ((hstep₁ _ fun acts => by rw [doInvoke_state]; exact Steps.refl _).trans hsteps)
  exact ⟨v, h', sn, r1, r2, r3⟩
theorem same_own {s : State} {args : Array Value} {y y' : MethodName} {C : String} (wd : (Jvm.Cond.instanceMethod y).before args s = true) (ws : (Jvm.Cond.selects C y' y').before args s = true) (hc : y'.cls = y.cls) (hy : y.cls ≠ "java/lang/invoke/MethodHandle" ∧ y.cls ≠ "java/lang/invoke/VarHandle") : (Jvm.Cond.sameMethod y.cls y.cls y.name y.desc).before args s = true := by
  obtain ⟨mk, methM, hnamed, hmethM, hstM, habM⟩ := Cond.instanceMethod_spec wd
  obtain ⟨c2, r2, m2, -, -, q3, -, kP, hkP, hkPi⟩ := Cond.selects_spec ws
  have hcn := findClass_of_methodNamed hnamed
  have hcn' := findClass_of_methodNamed q3
  rw [hc, hcn] at hcn'
  have e : mk.cls = m2.cls := Option.some.inj hcn'
  rw [← e] at hkP
  have hf := State.methodFound?_of_named hnamed hy
  have hn : s.methodNamed? ⟨y.cls, y.name, y.desc⟩ = some mk := hnamed
  simp [Cond.before, Cond.holds, Cond.value, hcn, hf, hn, hkP, hkPi]
/-- super.m(..) -/
theorem Hr.callSup {y y' : MethodName} {bytes : ByteArray} {maxL : Nat} {ret : Option FieldType} {rm : Room} {as' : Array Value} {sf' : List Addr} {Q : Option Value → Heap → List Addr → Prop} {index : Nat} {cls cls' : String} {argsL rest : List Value} {ps : List FieldType} {rt : Option FieldType}
    (H : Hr x b Z EL K S h sf pc Ls st) (C : Ct x.l Z EL y bytes maxL ret rm as' h sf' x.nar x.kn Q) (sub : ∀ a ∈ sf', a ∈ sf) (E : Exa Z h a cls)
    (w1 : (Jvm.Cond.methodLink b.y.cls index y).before a0 Z = true) (wi : (Jvm.Cond.instanceMethod y).before a0 Z = true) (wf : (Jvm.Cond.selects cls' y' y').before a0 Z = true) (wu : (Jvm.Cond.superclass b.y.cls y.cls).before a0 Z = true) (w3 : (Jvm.Cond.initialized y.cls).before a0 Z = true) (w4 : (Jvm.Cond.code y bytes maxL ret).before a0 Z = true)
    (hd : decode b.bytes pc = .ok (.invokespecial index, 3)) (hp : parseMethodDescriptor y.desc = some ⟨ps, rt⟩) (hst : st = argsL.reverse ++ .ref a :: rest) (hc' : y'.cls = y.cls := by rfl) (has : (Value.ref a :: argsL).toArray = as' := by rfl) (hl2 : argsL.length = ps.length := by rfl) (hn : y.name ≠ "<init>" := by decide) (hy : y.cls ≠ "java/lang/invoke/MethodHandle" ∧ y.cls ≠ "java/lang/invoke/VarHandle" := by decide)
    (hf : rm.frames + 1 ≤ b.R.frames := by decide) {Wr : Nat} (hW : (rest.map fun v => v.category).sum = Wr := by rfl) (hl : Wr + (maxL + 11) + rm.locals ≤ b.R.locals := by decide) (hc : K + rm.cells ≤ b.R.cells := by decide) (hs : S + rm.slots ≤ b.R.slots := by decide) (hLs : Ls.size = b.maxL := by rfl) (hpc : pc + 3 = pc' := by rfl) :
    ∃ (v : Option Value) (h' : Heap) (sn : List Addr), Q v h' sn ∧ Keep h h' sf' ∧ Hr x b Z EL (K + rm.cells) (S + rm.slots) h' (sn ++ sf) pc' Ls (v.toList ++ rest) := by
  subst has hpc hW
  obtain ⟨B, T, locs, cells, slots, vm0, k0, X, k⟩ := H
  have X2 := X
  obtain ⟨X1, h1, h2, h3, h4, h5, h6, h7, h8, h9, h10, h11, h12, h13, h14⟩ := X2
  obtain ⟨v, vm₁, P, -, X', hS, hgr, hp', hsteps⟩ := superBackS X1 B.2.1 h7 (K := cls) h8 w1 (same_own wi wf hc' hy) wi wu hn
    (C.backS (W := (rest.map fun v => v.category).sum) h7 w4 w3 hf hl B.1.choose_spec h9.1 h11 (fun z hz => (h12 z (sub z hz)).2) h14) h3 (Ins.self E)
    (g := mkF x.m pc Ls st) rfl (hLs.trans B.2.2.2.1.symm) w4 (argsL := argsL) (rest := rest) (lenOf hp hl2) hst (by show 2 * 0 + _ ≤ _; omega) (hb B.2.2.1 hd) (fun vm₁ _ => ⟨rfl, h3, by show cells + _ ≤ _; omega, by show slots + _ ≤ _; omega⟩)
  obtain ⟨h', sn, r1, r2, r3⟩ := Hr.after (rm := rm) (sf' := sf') (Q := Q) B X k sub X' hS hgr hp' hsteps
  exact ⟨v, h', sn, r1, r2, r3⟩
end Layer5
end Jvm.Pilot.@@N@@
namespace Jvm.Pilot.@@N@@
open Jvm Jvm.ClassFile Sem Op Lib Bundle Jvm.Free Jvm.Stand Jvm.LawKit Jvm.RoadKit
section Layer7
variable {x : Cx} {b : Bx} {Z : State} {EL : List (String × Nat)} {K S : Nat} {h h' : Heap} {sf : List Addr} {pc pc' : Nat} {Ls Ls' : Array Slot} {st st' : List Value} {a0 : Array Value} {a d : Addr} {ty ty' : FieldType} {vs us : List Value} {ws : List Addr} {sl : Nat} {v : Value} {C : String}
/-- newarray, with the new array's class -/
theorem Hr.newarrayE {aty : ArrayType} {n : Int32} {cap : Nat} {ad : String} (H : Hr x b Z EL K S h sf pc Ls (.int n :: st)) (w : (Jvm.Cond.arrayClass (newarray.typeOf aty)).before a0 Z = true) (hd : decode b.bytes pc = .ok (.newarray aty, 2)) (hn : ¬ n < 0) (hcap : n.toNatClampNeg ≤ cap) (hb8 : cap * 8 ≤ 536870912)
    (had : "[" ++ (newarray.typeOf aty).toString = ad) (hc : K + 1 ≤ b.R.cells := by decide) (hl : S + cap ≤ b.R.slots := by decide) (hpc : pc + 2 = pc' := by rfl) :
    ∃ h', Ext h h' ∧ (Ar Z h' h.size (newarray.typeOf aty) (List.replicate n.toNatClampNeg (defaultValue (newarray.typeOf aty))) ∧ Exa Z h' h.size ad) ∧ Hr x b Z EL (K + 1) (S + cap) h' (h.size :: sf) pc' Ls (.ref h.size :: st) := by
  subst hpc
  refine H.alloc hc hl (P := fun h' => Ar Z h' h.size (newarray.typeOf aty) (List.replicate n.toNatClampNeg (defaultValue (newarray.typeOf aty))) ∧ Exa Z h' h.size ad) (fun h' q => q.1.lt) fun T locs cells slots vm0 X eT hZ hown B hc' hl' => ?_
  obtain ⟨T', h', cA, X', e', E, A, F, st1⟩ := newPE X B.2.1 hZ w eT (g := mkF x.m pc Ls (.int n :: st)) rfl (hb B.2.2.1 hd) rfl hn hcap hb8 hc' hl' had
  exact ⟨T', h', X', e', E, ⟨Ar.of_new A hn, F⟩, st1⟩
/-- an array of references over the class C, and all that it holds -/
def Arf (Z : State) (h : Heap) (a : Addr) (C : String) (vs : List Value) : Prop := ∃ c : Cell, Arr Z h a c (.object C) ∧ c.slots.toList = vs ∧ vs.length < 2147483648 ∧ Ovr Z c.cls C
theorem Arf.ar (F : Arf Z h a C vs) : Ar Z h a (.object C) vs := by obtain ⟨c, A, r1, r2, -⟩ := F; exact ⟨c, A, r1, r2⟩
theorem Arf.lt (F : Arf Z h a C vs) : h.size > a := F.ar.lt
theorem Arf.ext (F : Arf Z h a C vs) (E : Ext h h') : Arf Z h' a C vs := by obtain ⟨c, A, r⟩ := F; exact ⟨c, A.ext E, r⟩
theorem Arf.keep (F : Arf Z h a C vs) (K : Keep h h' ws) (q : a ∉ ws) : Arf Z h' a C vs := by obtain ⟨c, A, r⟩ := F; exact ⟨c, ⟨K.2.1 a c A.1 q, A.2⟩, r⟩
theorem Arf.other (F : Arf Z h a C vs) (W : Wr h h' d sl v) (q : a ≠ d) : Arf Z h' a C vs := by obtain ⟨c, A, r⟩ := F; exact ⟨c, A.other W q, r⟩
theorem Arf.set (F : Arf Z h a C vs) (W : Wr h h' a sl v) : Arf Z h' a C (vs.set sl v) := by
  obtain ⟨c, A, r1, r2, r3⟩ := F
  exact ⟨_, A.same W, by subst r1; simp [Cell.setSlot], by simpa using r2, r3⟩
theorem Ar.neTy (F : Ar Z h a ty vs) (G : Ar Z h d ty' us) (q : ty ≠ ty') : a ≠ d := fun e => by
  subst e
  obtain ⟨c, A, -⟩ := F
  obtain ⟨c', A', -⟩ := G
  cases A.1.symm.trans A'.1
  obtain ⟨-, k, k1, c1, k2⟩ := A.2.1
  obtain ⟨-, k', k1', c1', k2'⟩ := A'.2.1
  cases k1.symm.trans k1'
  rw [k2] at k2'
  cases k2'
  exact q rfl
/-- anewarray of a class type -/
theorem Hr.anewarray {index cap : Nat} {n : Int32} (H : Hr x b Z EL K S h sf pc Ls (.int n :: st)) (w1 : (Jvm.Cond.classLink b.y.cls index C).before a0 Z = true) (w2 : (Jvm.Cond.arrayOver (.object C)).before a0 Z = true) (hd : decode b.bytes pc = .ok (.anewarray index, 3)) (hn : ¬ n < 0) (hcap : n.toNatClampNeg ≤ cap) (hb8 : cap * 8 ≤ 536870912)
    (hc : K + 1 ≤ b.R.cells := by decide) (hl : S + cap ≤ b.R.slots := by decide) (hpc : pc + 3 = pc' := by rfl) :
    ∃ h', Ext h h' ∧ Arf Z h' h.size C (List.replicate n.toNatClampNeg .null) ∧ Hr x b Z EL (K + 1) (S + cap) h' (h.size :: sf) pc' Ls (.ref h.size :: st) := by
  subst hpc
  refine H.alloc hc hl (P := fun h' => Arf Z h' h.size C (List.replicate n.toNatClampNeg .null)) (fun h' q => q.lt) fun T locs cells slots vm0 X eT hZ hown B hc' hl' => ?_
  obtain ⟨T', h', cA, X', e', E, A, O, st1⟩ := newR X B.2.1 hZ hown w1 w2 eT (g := mkF x.m pc Ls (.int n :: st)) rfl (hb B.2.2.1 hd) rfl hn hcap hb8 hc' hl'
  exact ⟨T', h', X', e', E, ⟨_, A, by simp [newA, defaultValue], by have := (back32 hn).2; simpa using this, O⟩, st1⟩
theorem Hr.aastore {i : Nat} {j : Int32} {y : Addr} (H : Hr x b Z EL K S h sf pc Ls (.ref y :: .int j :: .ref a :: st)) (ha : a ∈ sf) (A : Arf Z h a C vs) (I : Ins Z h y C true) (hd : decode b.bytes pc = .ok (.aastore, 1)) (hj : j = Int32.ofNat i) (hi : i < vs.length) (hpc : pc + 1 = pc' := by rfl) :
    ∃ h', Wr h h' a i (.ref y) ∧ Hr x b Z EL K S h' sf pc' Ls st := by
  subst hpc
  obtain ⟨c, A1, r1, r2, O⟩ := A
  obtain ⟨q1, q2, q3⟩ := Ar.at r1 r2 hj (List.getElem?_eq_getElem hi)
  rw [← q2]
  exact H.write ha fun T locs cells slots vm0 X eT hZ hown B => stR X B.2.1 hZ eT A1 q1 rfl (Sto.of A1 O I) (g := mkF x.m pc Ls (.ref y :: .int j :: .ref a :: st)) rfl rfl (hb B.2.2.1 hd)
/-- putfield through a subclass's name -/
theorem Hr.putFvia {index kk : Nat} {R0 O n d C : String} {ty : FieldType} {a : Addr} {v old : Value} (H : Hr x b Z EL K S h sf pc Ls (v :: .ref a :: st)) (ha : a ∈ sf) (w : (Jvm.Cond.fieldLink b.y.cls index R0 n d).before a0 Z = true) (via : Via Z R0 O n d) (F : Fld Z h a O n d old) (E : Exa Z h a C)
    (L : (Jvm.Cond.lays C O n d).before a0 Z = true) (wi : (Jvm.Cond.instantiable C kk).before a0 Z = true) (hd : decode b.bytes pc = .ok (.putfield index, 3))
    (hty : parseFieldDescriptor d = some ty := by decide +kernel) (hn : narrow ty v = v := by rfl) (hf : fits ty v = true := by rfl) (hpc : pc + 3 = pc' := by rfl) :
    ∃ h', Wr h h' a (Jvm.RoadKit.slotOf Z O n d) v ∧ Hr x b Z EL K S h' sf pc' Ls st := by
  subst hpc
  exact H.write ha fun T locs cells slots vm0 X eT hZ hown B => Jvm.RoadKit.putF X B.2.1 hZ hown (host := "") (Or.inl w) via eT F E (Or.inl L) wi hty hn hf (g := mkF x.m pc Ls (v :: .ref a :: st)) rfl rfl (hb B.2.2.1 hd)
theorem Hr.ldcWI {index : Nat} {v : Int32} (H : Hr x b Z EL K S h sf pc Ls st) (w : (Jvm.Cond.constant b.y.cls index v).before a0 Z = true) (hd : decode b.bytes pc = .ok (.ldc_w index, 3)) (hpc : pc + 3 = pc' := by rfl) : Hr x b Z EL K S h sf pc' Ls (.int v :: st) := by
  subst hpc
  exact H.same fun T locs cells slots vm0 X eT hZ hown B => ⟨T, X, eT, fun t q => Jvm.Stand.ldcWI X B.2.1 hown (mvT hZ w) (g := mkF x.m pc Ls st) rfl (hb B.2.2.1 hd) q⟩
theorem lsw {tb : Tables} [Ours tb] {e : Env} {below : List Frame} {T target : State} {m : MethodId} {c : Code} {g : JFrame} (h : At T m c below) (hx : tb.exec = Jvm.exec) (hg : g.method = m) {dflt : Int} {ps : Array (Int × Int)} {len : Nat} {o : Int} {pc0 pc' : Nat} (hpc : g.pc = pc0) (hd : decode c.code g.pc = .ok (.lookupswitch dflt ps, len)) {i : Int32} {rest : List Value} (hs : g.stack = .int i :: rest)
    (hoff : lookupswitch.offset ps.toList dflt i.toInt = o) (ho : 0 ≤ (pc0 : Int) + o) (hp : ((pc0 : Int) + o).toNat = pc') (hok : (ps.toList.zip ps.toList.tail).all (fun q => decide (q.1.1 < q.2.1)) = true)
    (hr : Steps tb e below (T.setTop { g with pc := pc', stack := rest }) target) : Steps tb e below (T.setTop g) target := by
  subst hg hpc hp hoff
  jvm_step h [h.top, hx, hd, hs, ho, lookupswitch.wp_chain]
  exact ⟨fun a b a1 b1 q => by have := List.all_eq_true.mp hok _ q; simpa using this, hr⟩
theorem Hr.lsw {dflt : Int} {ps : Array (Int × Int)} {len : Nat} {o : Int} {u : Int32} (H : Hr x b Z EL K S h sf pc Ls (.int u :: st)) (hd : decode b.bytes pc = .ok (.lookupswitch dflt ps, len)) (hoff : lookupswitch.offset ps.toList dflt u.toInt = o) (hp : ((pc : Int) + o).toNat = pc' := by decide) (ho : 0 ≤ (pc : Int) + o := by decide) (hok : (ps.toList.zip ps.toList.tail).all (fun q => decide (q.1.1 < q.2.1)) = true := by decide) : Hr x b Z EL K S h sf pc' Ls st := by
  exact H.step fun T A hx hby t q => Jvm.Pilot.@@N@@.lsw A hx rfl (pc0 := pc) rfl (hb hby hd) rfl hoff ho hp hok q
theorem Hr.tsw {dflt low high : Int} {offs : Array Int} {len : Nat} {o : Int} {u : Int32} (H : Hr x b Z EL K S h sf pc Ls (.int u :: st)) (hd : decode b.bytes pc = .ok (.tableswitch dflt low high offs, len)) (hin : ¬ (u.toInt < low ∨ u.toInt > high)) (hoff : offs[(u.toInt - low).toNat]? = some o) (hp : ((pc : Int) + o).toNat = pc' := by decide) (ho : 0 ≤ (pc : Int) + o := by decide) : Hr x b Z EL K S h sf pc' Ls st := by
  exact H.step fun T A hx hby t q => XS.tswIn A hx rfl (pc0 := pc) rfl (hb hby hd) rfl hin hoff ho hp q
/-- invokeinterface -/
theorem Hr.callF {y z : MethodName} {bytes : ByteArray} {maxL : Nat} {ret : Option FieldType} {rm : Room} {as' : Array Value} {sf' : List Addr} {Q : Option Value → Heap → List Addr → Prop} {index count : Nat} {a : Addr} {cls : String} {argsL rest : List Value} {ps : List FieldType} {rt : Option FieldType}
    (H : Hr x b Z EL K S h sf pc Ls st) (C : Ct x.l Z EL z bytes maxL ret rm as' h sf' x.nar x.kn Q) (sub : ∀ a ∈ sf', a ∈ sf) (E : Exa Z h a cls)
    (w1 : (Jvm.Cond.methodLink b.y.cls index y).before a0 Z = true) (w2 : (Jvm.Cond.declares y).before a0 Z = true) (wf : (Jvm.Cond.interfaceMethod y.cls y.cls y.name y.desc).before a0 Z = true) (ws : (Jvm.Cond.selects cls y z).before a0 Z = true) (wi : (Jvm.Cond.instanceMethod z).before a0 Z = true) (wp : (Jvm.Cond.publicMethod z).before a0 Z = true) (wu : (Jvm.Cond.unhidden cls y.name y.desc).before a0 Z = true) (wc : (Jvm.Cond.castable cls y.cls).before a0 Z = true)
    (w3 : (Jvm.Cond.initialized z.cls).before a0 Z = true) (w4 : (Jvm.Cond.code z bytes maxL ret).before a0 Z = true)
    (hd : decode b.bytes pc = .ok (.invokeinterface index count, 5)) (hp : parseMethodDescriptor y.desc = some ⟨ps, rt⟩) (hst : st = argsL.reverse ++ .ref a :: rest) (okf : ((Jvm.Cond.interfaceMethod y.cls y.cls y.name y.desc).onTables && (Jvm.Cond.interfaceMethod y.cls y.cls y.name y.desc).keepsFace) = true := by first | rfl | decide) (has : (Value.ref a :: argsL).toArray = as' := by rfl) (hl2 : argsL.length = ps.length := by rfl) (hy : y.cls ≠ "java/lang/invoke/MethodHandle" ∧ y.cls ≠ "java/lang/invoke/VarHandle" := by decide)
    (hf : rm.frames + 1 ≤ b.R.frames := by decide) {Wr : Nat} (hW : (rest.map fun v => v.category).sum = Wr := by rfl) (hl : Wr + (maxL + 11) + rm.locals ≤ b.R.locals := by decide) (hc : K + rm.cells ≤ b.R.cells := by decide) (hs : S + rm.slots ≤ b.R.slots := by decide) (hLs : Ls.size = b.maxL := by rfl) (hpc : pc + 5 = pc' := by rfl) :
    ∃ (v : Option Value) (h' : Heap) (sn : List Addr), Q v h' sn ∧ Keep h h' sf' ∧ Hr x b Z EL (K + rm.cells) (S + rm.slots) h' (sn ++ sf) pc' Ls (v.toList ++ rest) := by
  subst has hpc hW
  obtain ⟨B, T, locs, cells, slots, vm0, k0, X, k⟩ := H
  have X2 := X
  obtain ⟨X1, h1, h2, h3, h4, h5, h6, h7, h8, h9, h10, h11, h12, h13, h14⟩ := X2
  obtain ⟨cB, kB, i1, i2, i3⟩ := isOf (s := x.s.setVm vm0) (T := T) h7 h3 E
  obtain ⟨v, vm₁, P, -, X', hS, hgr, hp', hsteps⟩ := X1.interfaceBackS B.2.1 (xi := y) (y := z) h8 (mvT h7 w1) (mvT h7 w2) (mvT h7 wf okf) (mvT h7 ws) (mvT h7 wi) (mvT h7 wp) (mvT h7 wu) (mvT h7 wc) hy
    (C.backS (W := (rest.map fun v => v.category).sum) h7 w4 w3 hf hl B.1.choose_spec h9.1 h11 (fun z hz => (h12 z (sub z hz)).2) h14) i1 i2 i3
    (g := mkF x.m pc Ls st) rfl (hLs.trans B.2.2.2.1.symm) (Steps.refl _) (argsL := argsL) (rest := rest) (lenOf hp hl2) hst (by show 2 * 0 + _ ≤ _; omega) (hb B.2.2.1 hd) (fun vm₁ _ => ⟨rfl, h3, by show cells + _ ≤ _; omega, by show slots + _ ≤ _; omega⟩)
  obtain ⟨h', sn, r1, r2, r3⟩ := Hr.after (rm := rm) (sf' := sf') (Q := Q) B X k sub X' hS hgr hp' hsteps
  exact ⟨v, h', sn, r1, r2, r3⟩
end Layer7
end Jvm.Pilot.@@N@@
namespace Jvm.Pilot.@@N@@
open Jvm Jvm.ClassFile Sem Op Lib Bundle Jvm.Free Jvm.Stand Jvm.LawKit Jvm.RoadKit
open Jvm.Free.Exc (excAtoms obD msgD thD fillPaysAny)
section Layer9
variable {x : Cx} {b : Bx} {Z : State} {EL : List (String × Nat)} {K S : Nat} {h h' : Heap} {sf : List Addr} {pc pc' : Nat} {Ls Ls' : Array Slot} {st st' : List Value} {a0 : Array Value} {a : Addr}
/-! ### a Throwable's constructor over a sheet that lacks one word -/
/-- the word of the library's list that the sheet has not got -/
abbrev lackW : Jvm.Cond := .lays tN tN "suppressedExceptions" listD
/-- what the library's fill law asks of the tables, out of the other words (for that one field: out of 'lays rc') -/
theorem links_of {args : Array Value} {s : State} {pl : Platform} {rc : String} (howns : pl.frameOwnsMonitors = true) (hfin : pl.finalization = false) (hpl : pl.magicAccessors = ({} : Platform).magicAccessors) (hrc : rc ≠ tN)
    (W : ∀ d ∈ excAtoms rc, d ≠ lackW → d.before args s = true) :
    ∃ (T : ThrowableC) (Bk : BackC) (iD : Nat) (fD : Field), T.Links pl s ∧ s.vm.findClass tN = some T.cT ∧ s.methodNamed? tFill = some T.fill ∧ s.methodNamed? tFill0 = some T.fill0 ∧
      s.fieldFound? tN "stackTrace" steD = some (T.cT, T.kT, T.i17, T.fStack) ∧ T.fStack.type = .array (.object "java/lang/StackTraceElement") ∧ s.fieldFound? tN "UNASSIGNED_STACK" steD = some (T.cT, T.kT, T.i13, T.fUnassigned) ∧
      Bk.Links T pl s ∧ s.fieldFound? tN "backtrace" obD = some (T.cT, T.kT, Bk.i198, Bk.fBack) ∧ Bk.fBack.type = .object "java/lang/Object" ∧ T.kT.fields.find? (fun f => f.name == "backtrace" && !f.isStatic) = some Bk.fBack ∧
      s.fieldFound? tN "depth" "I" = some (T.cT, T.kT, iD, fD) ∧ fD.type = .int ∧ T.kT.fields.find? (fun f => f.name == "depth" && !f.isStatic) = some fD := by
  have g : ∀ d, d ∈ excAtoms rc → d ≠ lackW → d.holds args s none s [] = true := W
  have wSup : (Jvm.Cond.lays rc tN "suppressedExceptions" listD).holds args s none s [] = true := g _ (by simp [excAtoms]) (by simp [lackW, hrc])
  have wStk : (Jvm.Cond.lays rc tN "stackTrace" steD).holds args s none s [] = true := g _ (by simp [excAtoms]) (by simp [lackW])
  have wMsg : (Jvm.Cond.lays rc tN "detailMessage" msgD).holds args s none s [] = true := g _ (by simp [excAtoms]) (by simp [lackW])
  have wDep : (Jvm.Cond.lays rc tN "depth" "I").holds args s none s [] = true := g _ (by simp [excAtoms]) (by simp [lackW])
  -- the class, its two methods, Object's constructor
  obtain ⟨⟨c, i0⟩, meth0, hn0, hm0, hnat0, hcode0, hlocks0, hsig0⟩ := Cond.native_spec (g (.native tFill0) (by simp [excAtoms, throwableAtoms]) (by simp [lackW]))
  have hc : s.vm.findClass tN = some c := findClass_of_methodNamed hn0
  obtain ⟨k, hk, hname⟩ := Vm.findClass_spec hc
  obtain ⟨_, k1, _, _, hk1, _, _, -, _, hni⟩ := Cond.superclass_spec hc (g (.superclass tN "java/lang/Object") (by simp [excAtoms, throwableAtoms]) (by simp [lackW]))
  obtain rfl : k = k1 := Option.some.inj (hk.symm.trans hk1)
  obtain ⟨iF, methF, hnF, hmF, hatF, hstF, habF, -, -⟩ := Cond.ownMethod (x := tFill) hc hk (g (.instanceMethod tFill) (by simp [excAtoms, throwableAtoms]) (by simp [lackW]))
  obtain ⟨methF', cF, hmF', hcF, hbF, hlF, hrF, hlkF, -, hsigF⟩ := Cond.codeSync_spec hnF (g (.codeSync tFill Jvm.LibCode.Throwable.Fill.code 1 (some (.object tN))) (by simp [excAtoms, throwableAtoms]) (by simp [lackW]))
  obtain rfl : methF = methF' := Option.some.inj (hmF.symm.trans hmF')
  obtain ⟨i0', meth0', hn0', hm0', hat0, hst0, hab0, hnm0, hds0⟩ := Cond.ownMethod (x := tFill0) hc hk (g (.instanceMethod tFill0) (by simp [excAtoms, throwableAtoms]) (by simp [lackW]))
  obtain rfl : i0 = i0' := by have := Option.some.inj (hn0.symm.trans hn0'); simpa using this
  obtain rfl : meth0 = meth0' := Option.some.inj (hm0.symm.trans hm0')
  obtain ⟨mO, methO, hnO, hmO, hstO, habO⟩ := Cond.instanceMethod_spec (g (.instanceMethod oInit) (by simp [excAtoms, throwableAtoms]) (by simp [lackW]))
  obtain ⟨methO', cO, hmO', hcO, hbO, hlO, -, hlkO, -, hsigO⟩ := Cond.code_spec hnO (g (.code oInit ⟨#[0xb1]⟩ 1 none) (by simp [excAtoms, throwableAtoms]) (by simp [lackW]))
  obtain rfl : methO = methO' := Option.some.inj (hmO.symm.trans hmO')
  obtain ⟨kO, hkO, hnameO⟩ := Vm.findClass_spec (findClass_of_methodNamed hnO)
  obtain ⟨hnmO, hdsO⟩ := name_of_methodNamed hnO hmO
  -- the pool's entries
  obtain ⟨ci1, n1, cf, hl1, hr1, hcf, hp1⟩ := Cond.linkedMethod hc hk hnO (g (.methodLink tN 1 oInit) (by simp [excAtoms, throwableAtoms]) (by simp [lackW])) pl hpl
  obtain ⟨ci27, n27, cf2, hl27, hr27, hcf2, hp27⟩ := Cond.linkedMethod hc hk hnF (g (.methodLink tN 27 tFill) (by simp [excAtoms, throwableAtoms]) (by simp [lackW])) pl hpl
  obtain rfl : cf = cf2 := Option.some.inj (hcf.symm.trans hcf2)
  obtain ⟨ci202, n202, cf3, hl202, hr202, hcf3, hp202⟩ := Cond.linkedMethod hc hk hn0 (g (.methodLink tN 202 tFill0) (by simp [excAtoms, throwableAtoms]) (by simp [lackW])) pl hpl
  obtain rfl : cf = cf3 := Option.some.inj (hcf.symm.trans hcf3)
  obtain ⟨ci7, i7, f7, hk7, hg7, ha7, hs7, hf7, -, -, -⟩ := Cond.ownField (t := .object tN) hc hk (by decide +kernel) (g (.fieldLink tN 7 tN "cause" thD) (by simp [excAtoms, throwableAtoms]) (by simp [lackW])) (g (.lays rc tN "cause" thD) (by simp [excAtoms]) (by simp [lackW])) pl hpl
  obtain ⟨ci17, i17, f17, hk17, hg17, ha17, hs17, hf17, hn17, ht17, hff17⟩ := Cond.ownField (t := .array (.object "java/lang/StackTraceElement")) hc hk (by decide +kernel) (g (.fieldLink tN 17 tN "stackTrace" steD) (by simp [excAtoms, throwableAtoms]) (by simp [lackW])) wStk pl hpl
  obtain ⟨ci24, i24, f24, hk24, hg24, ha24, hs24, hf24, hn24, -, hff24⟩ := Cond.ownField (t := .object "java/util/List") hc hk (by decide +kernel) (g (.fieldLink tN 24 tN "suppressedExceptions" listD) (by simp [excAtoms, throwableAtoms]) (by simp [lackW])) wSup pl hpl
  obtain ⟨ci198, i198, fB, hk198, hg198, ha198, hsB, -, hnB, htB, hffB⟩ := Cond.ownField (t := .object "java/lang/Object") hc hk (by decide +kernel) (g (.fieldLink tN 198 tN "backtrace" obD) (by simp [excAtoms]) (by simp [lackW])) (g (.lays rc tN "backtrace" obD) (by simp [excAtoms]) (by simp [lackW])) pl hpl
  obtain ⟨ci13, i13, f13, aS, cellS, hk13, hg13, ha13, hs13, -, -, hsta, -, -, -, -, hff13⟩ := Cond.ownStatic (t := .array (.object "java/lang/StackTraceElement")) hc hk (by decide +kernel) (g (.fieldLink tN 13 tN "UNASSIGNED_STACK" steD) (by simp [excAtoms, throwableAtoms]) (by simp [lackW])) (g (.laysStatic tN "UNASSIGNED_STACK" steD) (by simp [excAtoms, throwableAtoms]) (by simp [lackW])) pl hpl
  obtain ⟨ci20, i20, f20, _, _, hk20, hg20, ha20, hs20, -, -, -, -, -, -, -, -⟩ := Cond.ownStatic (t := .object "java/util/List") hc hk (by decide +kernel) (g (.fieldLink tN 20 tN "SUPPRESSED_SENTINEL" listD) (by simp [excAtoms, throwableAtoms]) (by simp [lackW])) (g (.laysStatic tN "SUPPRESSED_SENTINEL" listD) (by simp [excAtoms, throwableAtoms]) (by simp [lackW])) pl hpl
  obtain ⟨_, _, _, _, _, fM, _, _, _, hsM, hfM, _⟩ := Cond.lays_spec wMsg
  -- depth, and two slots that lie apart
  obtain ⟨cR, kR, cD, kD, iD, fD, hcR, hkR, hffD, hstD, -, -, -, -⟩ := Cond.lays_spec wDep
  obtain rfl : c = cD := (Option.some.inj ((Cond.lays_declared wDep hffD).symm.trans hc)).symm
  obtain ⟨hkD, hatD⟩ := State.fieldFound?_spec hffD
  obtain rfl : k = kD := (Option.some.inj (hkD.symm.trans hk)).symm
  obtain ⟨hnD, htD⟩ := State.fieldFound?_type hffD (t := .int) (by decide +kernel)
  obtain ⟨-, d17, hd17, hdn17⟩ := Cond.laysAt hcR hkR hff17 wStk
  obtain ⟨-, d24, hd24, hdn24⟩ := Cond.laysAt hcR hkR hff24 wSup
  have hapart : f17.slot ≠ f24.slot := Cond.laysApart hd17 hd24 hdn17 hdn24 (by rw [hn17, hn24]; decide)
  have hfb := Cond.soleField_find hc hk (g (.soleField tN "backtrace") (by simp [excAtoms]) (by simp [lackW])) ha198 hnB hsB
  have hfd := Cond.soleField_find hc hk (g (.soleField tN "depth") (by simp [excAtoms]) (by simp [lackW])) hatD hnD hstD
  have pF : methF.sig.parameters = [] := by
    have q : (parseMethodDescriptor tFill.desc).map (·.parameters) = some [] := by decide +kernel
    rw [hsigF] at q; simpa using q
  have p0 : meth0.sig.parameters = [.int] := by
    have q : (parseMethodDescriptor tFill0.desc).map (·.parameters) = some [.int] := by decide +kernel
    rw [hsig0] at q; simpa using q
  have pO : methO.sig.parameters.length = 0 := by
    have q : (parseMethodDescriptor oInit.desc).map (·.parameters) = some [] := by decide +kernel
    rw [hsigO] at q
    have : methO.sig.parameters = [] := by simpa using q
    rw [this]; rfl
  refine ⟨{ cT := c, kT := k, cO := c, aS := aS, fillIdx := iF, fill0Idx := i0, initSIdx := iF, obj := mO, kObj := kO, methFill := methF, methFill0 := meth0, methInitS := methF, methObj := methO, codeFill := cF, codeInitS := cF, codeObj := cO,
              fBack := f7, fDepth := f7, fStack := f17, fCause := f7, fSupp := f24, fMsg := fM, fUnassigned := f13, fSentinel := f20, cfT := cf, ci1 := ci1, n1 := n1, ci27 := ci27, n27 := n27, ci202 := ci202, n202 := n202,
              ci7 := ci7, i7 := i7, ci13 := ci13, i13 := i13, ci17 := ci17, i17 := i17, ci20 := ci20, i20 := i20, ci24 := ci24, i24 := i24 },
    { ci198 := ci198, i198 := i198, fBack := fB }, iD, fD, ?_, hc, hnF, hn0, hff17, ht17, hff13, ⟨hk198, hg198, ha198, hsB⟩, hffB, htB, hfb, hffD, htD, hfd⟩
  exact { owns := howns, noFinalization := hfin, cls := hk, name := hname, boot := Vm.findClass_boot hc hk, notInterface := hni, initialized := Cond.initialized_spec hc hk (g (.initialized tN) (by simp [excAtoms, throwableAtoms]) (by simp [lackW])), statics := hsta,
          fillAt := hatF, fillCode := hcF, fillBytes := hbF, fillLocals := hlF, fillLocks := hlkF, fillStatic := hstF, fillAbstract := habF, fillReturns := hrF, fillParams := pF,
          fill0At := hat0, fill0Name := hnm0, fill0Desc := hds0, fill0Params := p0, fill0Static := hst0, fill0Native := hnat0, fill0Code := hcode0, fill0Locks := hlocks0, fill0Abstract := hab0,
          stackInstance := hs17, stackNotFinal := hf17, unassignedStatic := hs13,
          objClass := hkO, objClassName := hnameO, objMethod := hmO, objName := hnmO, objStatic := hstO, objAbstract := habO, objFound := by rw [hdsO]; exact lookupSpecial_of_named hnO hmO hstO, objParams := pO,
          objCode := hcO, objBytes := hbO, objLocks := hlkO, causeInstance := hs7, causeNotFinal := hf7, sentinelStatic := hs20, suppInstance := hs24, suppNotFinal := hf24, msgInstance := hsM, msgNotFinal := hfM, stackApartSupp := hapart,
          file := hcf, mlink1 := hl1, mright1 := hr1, pool1 := hp1, mlink27 := hl27, mright27 := hr27, pool27 := hp27, mlink202 := hl202, mright202 := hr202, pool202 := hp202,
          link7 := hk7, right7 := hg7, at7 := ha7, link13 := hk13, right13 := hg13, at13 := ha13, link17 := hk17, right17 := hg17, at17 := ha17, link20 := hk20, right20 := hg20, at20 := ha20, link24 := hk24, right24 := hg24, at24 := ha24 }
/-- as Hr, where nothing has been made yet and the places written lie in the cells handed in -/
def Hl (x : Cx) (b : Bx) (Z : State) (EL : List (String × Nat)) (h : Heap) (sf : List Addr) (pc : Nat) (Ls : Array Slot) (st : List Value) : Prop :=
  Bs x b Z EL ∧ ∃ (T : State) (locs : List Loc) (vm0 : Vm) (k0 : Nat), Hx x b Z EL 0 0 h sf T locs 0 0 vm0 k0 ∧ (∀ y ∈ locs, y.base ∈ x.sf0) ∧
    ∀ target, Steps x.p.tables x.e x.below (T.setTop (mkF x.m pc Ls st)) target → Steps x.p.tables x.e x.below x.B target
theorem Hl.hr (H : Hl x b Z EL h sf pc Ls st) : Hr x b Z EL 0 0 h sf pc Ls st := by
  obtain ⟨B, T, locs, vm0, k0, X, -, k⟩ := H
  exact ⟨B, T, locs, 0, 0, vm0, k0, X, k⟩
theorem Ct.introL {l : Launch} {y : MethodName} {bytes : ByteArray} {maxL : Nat} {ret : Option FieldType} {rm : Room} {as' : Array Value} {nar kn : Bool} {Q : Option Value → Heap → List Addr → Prop} (hpl : plainFor y = true) (hEL : EW Z a0 EL)
    (hef : ∀ m : MethodId, entryFrame m as' maxL = mkF m 0 Ls [])
    (body : ∀ x : Cx, x.l = l → x.nar = nar → x.kn = kn → x.sf0 = sf → x.s.heap = h → Hl x (rm, y, bytes, maxL, ret) Z EL h sf 0 Ls [] → Ends x (rm, y, bytes, maxL, ret) Z EL Q) :
    Ct l Z EL y bytes maxL ret rm as' h sf nar kn Q := by
  intro ws
  refine MetFree.of_bodySF hpl hisR ?_
  intro p e s m args below meth c s₁ Bd hml0 hP hK
  obtain ⟨rfl, hZ, hh, hC, hE, hs⟩ := hP
  have hown : s.vm.findClass y.cls = some m.cls := findClass_of_methodNamed Bd.named
  have hnm := (name_of_methodNamed Bd.named Bd.method).1
  have X0 := Stand.of_body Bd
  have e0 : s₁.heap = h := by rw [← hh, Bd.state]; rfl
  subst hh
  have hF := body (p, l, e, s, m, args, below, meth, c, s₁.setTop (entryFrame m args maxL), sf, nar, kn) rfl rfl rfl rfl rfl
    ⟨⟨⟨_, hEL⟩, Bd.exec, Bd.bytes, hml0, Bd.returns, Bd.notSynchronized, hnm⟩, s₁, [], s.vm, s.heap.size,
      ⟨X0, Nat.le_refl _, Nat.le_refl _, e0, Fr.nil _, (State.WarmedH.refl s).since _, Nat.le_refl _, hZ, hown, CHr.refl hC, Keep.refl _ _, hE, fun a ha => ⟨Or.inl ha, hs a ha⟩, fun _ => State.WarmedH.refl s, hK⟩, (by simp),
      fun t k => castTop (hef m) k⟩
  exact hF
theorem Hl.step (H : Hl x b Z EL h sf pc Ls st)
    (f : ∀ T : State, At T x.m x.c x.below → x.p.tables.exec = Jvm.exec → x.c.code = b.bytes → ∀ target, Steps x.p.tables x.e x.below (T.setTop (mkF x.m pc' Ls' st')) target → Steps x.p.tables x.e x.below (T.setTop (mkF x.m pc Ls st)) target) : Hl x b Z EL h sf pc' Ls' st' := by
  obtain ⟨B, T, locs, vm0, k0, X, hlc, k⟩ := H
  exact ⟨B, T, locs, vm0, k0, X, hlc, fun t q => k t (f T X.1.here B.2.1 B.2.2.1 t q)⟩
theorem Hl.same (H : Hl x b Z EL h sf pc Ls st)
    (f : ∀ (T : State) (locs : List Loc) (cells slots : Nat) (vm0 : Vm), Stand x.p x.l x.e b.R (x.s.setVm vm0) x.m x.args x.below x.meth x.c T locs cells slots → T.heap = h → Z.Warmed39 (x.s.setVm vm0).vm → (x.s.setVm vm0).vm.findClass b.y.cls = some x.m.cls → Bs x b Z EL →
      ∃ T', Stand x.p x.l x.e b.R (x.s.setVm vm0) x.m x.args x.below x.meth x.c T' locs cells slots ∧ T'.heap = h ∧ ∀ target, Steps x.p.tables x.e x.below (T'.setTop (mkF x.m pc' Ls' st')) target → Steps x.p.tables x.e x.below (T.setTop (mkF x.m pc Ls st)) target) : Hl x b Z EL h sf pc' Ls' st' := by
  obtain ⟨B, T, locs, vm0, k0, ⟨X, h1, h2, h3, h4, h5, h6, h7, h8, hr⟩, hlc, k⟩ := H
  obtain ⟨T', X', e', st1⟩ := f T locs 0 0 vm0 X h3 h7 h8 B
  exact ⟨B, T', locs, vm0, k0, ⟨X', h1, h2, e', h4, h5, h6, h7, h8, hr⟩, hlc, fun t q => k t (st1 t q)⟩
theorem Hl.write {sl : Nat} {v : Value} (H : Hl x b Z EL h sf pc Ls st) (ha : a ∈ sf) (ha0 : a ∈ x.sf0)
    (f : ∀ (T : State) (locs : List Loc) (cells slots : Nat) (vm0 : Vm), Stand x.p x.l x.e b.R (x.s.setVm vm0) x.m x.args x.below x.meth x.c T locs cells slots → T.heap = h → Z.Warmed39 (x.s.setVm vm0).vm → (x.s.setVm vm0).vm.findClass b.y.cls = some x.m.cls → Bs x b Z EL →
      ∃ T' h', Stand x.p x.l x.e b.R (x.s.setVm vm0) x.m x.args x.below x.meth x.c T' (locs ++ [⟨a, sl⟩]) cells slots ∧ T'.heap = h' ∧ Wr h h' a sl v ∧ ∀ target, Steps x.p.tables x.e x.below (T'.setTop (mkF x.m pc' Ls' st')) target → Steps x.p.tables x.e x.below (T.setTop (mkF x.m pc Ls st)) target) :
    ∃ h', Wr h h' a sl v ∧ Hl x b Z EL h' sf pc' Ls' st' := by
  obtain ⟨B, T, locs, vm0, k0, ⟨X, h1, h2, h3, h4, h5, h6, h7, h8, h9, h10, h11, h12, h13, h14⟩, hlc, k⟩ := H
  obtain ⟨T', h', X', e', W, st1⟩ := f T locs 0 0 vm0 X h3 h7 h8 B
  have hm := h12 a ha
  refine ⟨h', W, B, T', _, vm0, k0, ⟨X', h1, h2, e', Fr.snoc X' h4 hm.2.1, h5, by rw [W.size]; exact h6, h7, h8, h9.trans (CHr.wr W hm.2.2.2 h9.1), h10.wr W hm.1, Ext.ofKeep h11 (Keep.of_wr W) (allS hm.2.1 all0), fun y hy => ?_, h13, h14⟩, fun y hy => ?_, fun t q => k t (st1 t q)⟩
  · obtain ⟨y1, y2, y3, y4⟩ := h12 y hy
    exact ⟨y1, y2, by rw [W.size]; exact y3, Safe.wr W hm.2.2.2 h9.1 y4⟩
  · rcases List.mem_append.mp hy with hy | hy
    · exact hlc y hy
    · cases List.mem_singleton.mp hy; exact ha0
theorem Hl.aloadN {k : Fin 4} {v : Value} (H : Hl x b Z EL h sf pc Ls st) (hd : decode b.bytes pc = .ok (.aload_n k, 1)) (hl : Ls[k.val]? = some (.val v) := by rfl) (hv : v.isRef = true := by rfl) (hpc : pc + 1 = pc' := by rfl) : Hl x b Z EL h sf pc' Ls (v :: st) := by
  subst hpc; exact H.step fun T A hx hby t q => XS.aloadN A hx rfl (hb hby hd) hl hv q
theorem Hl.getS {index : Nat} {O n d : String} {v : Value} (H : Hl x b Z EL h sf pc Ls st) (w : (Jvm.Cond.fieldLink b.y.cls index O n d).before a0 Z = true) (F : Sta Z h O n d v) (hd : decode b.bytes pc = .ok (.getstatic index, 3)) (hpc : pc + 3 = pc' := by rfl) : Hl x b Z EL h sf pc' Ls (v :: st) := by
  subst hpc
  exact H.same fun T locs cells slots vm0 X eT hZ hown B => Jvm.RoadKit.getS (host := "") X B.2.1 hZ hown w Via.refl eT F (g := mkF x.m pc Ls st) rfl (hb B.2.2.1 hd)
theorem Hl.initO {index : Nat} (H : Hl x b Z EL h sf pc Ls [.ref a]) (w1 : (Jvm.Cond.methodLink b.y.cls index Lib.objectInit).before a0 Z = true) (w2 : (Jvm.Cond.instanceMethod Lib.objectInit).before a0 Z = true) (w3 : (Jvm.Cond.code Lib.objectInit ⟨#[0xb1]⟩ 1 none).before a0 Z = true)
    (hd : decode b.bytes pc = .ok (.invokespecial index, 3)) (hLs : Ls.size = b.maxL := by rfl) (hf : 1 ≤ b.R.frames := by decide) (hl : 12 ≤ b.R.locals := by decide) (hpc : pc + 3 = pc' := by rfl) : Hl x b Z EL h sf pc' Ls [] := by
  subst hpc
  exact H.same fun T locs cells slots vm0 X eT hZ hown B => Jvm.RoadKit.initO X B.2.1 hZ hown w1 w2 w3 eT (g := mkF x.m pc Ls [.ref a]) rfl (hLs.trans B.2.2.2.1.symm) rfl (hb B.2.2.1 hd) hf (W := 0) (by show 2 * 0 + 0 ≤ 0; decide) (by omega)
theorem Hl.putF {index kk : Nat} {O n d C : String} {ty : FieldType} {v old : Value} (H : Hl x b Z EL h sf pc Ls (v :: .ref a :: st)) (ha : a ∈ sf) (ha0 : a ∈ x.sf0) (w : (Jvm.Cond.fieldLink b.y.cls index O n d).before a0 Z = true) (F : Fld Z h a O n d old) (E : Exa Z h a C)
    (L : (Jvm.Cond.lays C O n d).before a0 Z = true) (wi : (Jvm.Cond.instantiable C kk).before a0 Z = true) (hd : decode b.bytes pc = .ok (.putfield index, 3))
    (hty : parseFieldDescriptor d = some ty) (hn : narrow ty v = v) (hf : fits ty v = true) (hpc : pc + 3 = pc' := by rfl) :
    ∃ h', Wr h h' a (Jvm.RoadKit.slotOf Z O n d) v ∧ Hl x b Z EL h' sf pc' Ls st := by
  subst hpc
  exact H.write ha ha0 fun T locs cells slots vm0 X eT hZ hown B => Jvm.RoadKit.putF X B.2.1 hZ hown (host := "") (Or.inl w) Via.refl eT F E (Or.inl L) wi hty hn hf (g := mkF x.m pc Ls (v :: .ref a :: st)) rfl rfl (hb B.2.2.1 hd)
/-- fillInStackTrace() of an object that is being made: its cell alone is written, one cell at the most is made -/
theorem Hl.fill {rc : String} {n : Nat} {u : Value} (H : Hl x b Z EL h sf pc Ls [.ref a]) (hrc : rc ≠ tN) (hl0 : x.l.stackTraces = true) (hkn : x.kn = true) (hE0 : Ext Z.heap x.s.heap) (hsf : x.sf0 = [a]) (hsz : h.size = x.s.heap.size) (ha : a ∈ sf)
    (E : Exa Z h a rc) (N : Unt h a) (Fb : Fld Z h a tN "backtrace" obD .null) (Fs : Fld Z h a tN "stackTrace" steD u) (U0 : Sta Z h tN "UNASSIGNED_STACK" steD u) (hu : u.isRef = true)
    (W : ∀ d ∈ excAtoms rc, d ≠ lackW → d.before a0 Z = true) (wi : (Jvm.Cond.instantiable rc n).before a0 Z = true)
    (hd : decode b.bytes pc = .ok (.invokevirtual 27, 3)) (hby : b.y.cls = tN) (hLs : Ls.size = b.maxL) (hf : 3 ≤ b.R.frames) (hlo : 42 ≤ b.R.locals) (hc : 1 ≤ b.R.cells) (hs : 2752 ≤ b.R.slots) :
    ∃ h', Keep h h' [a] ∧ Exa Z h' a rc ∧ (∃ v, Fld Z h' a tN "detailMessage" msgD v) ∧ Hr x b Z EL 1 2752 h' sf (pc + 3) Ls [.ref a] := by
  obtain ⟨B, T, locs, vm0, k0, ⟨X, h1, h2, h3, h4, h5, h6, h7, h8, h9, h10, h11, h12, h13, h14⟩, hlc, k⟩ := H
  have hT0 : ThS Z (x.s.setVm vm0).heap := ThS.ext hE0 ThS.start
  have W' : ∀ d ∈ excAtoms rc, d ≠ lackW → d.before x.args (x.s.setVm vm0) = true := fun d hd hn => mvX (s := x.s.setVm vm0) hT0 h7 (List.all_eq_true.mp exc_ok d hd) (W d hd hn)
  obtain ⟨TT, Bk, iD, fD, LL, y1, y2, y3, y4, y5, y6, y7, y8, y9, y10, y11, y12, y13⟩ := links_of (args := x.args) (s := x.s.setVm vm0) (pl := x.e.platform) (by rw [X.admits.platform]) (by rw [X.admits.platform]) (by rw [X.admits.platform]) hrc W'
  have htr : x.e.platform.stackTraces = true := by rw [X.admits.platform]; exact hl0
  -- the cell
  obtain ⟨cell, kc, e1, e2, e3, -, e5⟩ := id E
  obtain ⟨c2, u1, u2, u3⟩ := id N
  cases e1.symm.trans u1
  obtain ⟨c4, k2, i1, i2, i3, -⟩ := Cond.instantiable_spec wi
  cases e2.symm.trans i1
  cases e3.symm.trans i2
  have f2 : (x.s.setVm vm0).vm.findClass rc = some cell.cls := by show vm0.findClass rc = _; rw [h7.alike.findClass]; exact e2
  obtain ⟨kX, q1, q2⟩ := h7.alike.2.2 _ _ e3
  have kord : kX.kind = .ordinary := by rw [q2]; exact i3
  have ksz : cell.slots.size = kX.instanceTypes.size := by rw [q2]; exact e5 i3
  have tk : ∀ {f : Field} {v : Value}, kX.instanceTypes[f.slot]? = some f.type → fits f.type v = true → Jvm.Takes (x.s.setVm vm0) cell f v := fun {f v} z1 z2 => by
    obtain ⟨t1, t2⟩ := Takes.of_laid (s := x.s.setVm vm0) (c := cell.cls) (v := v) q1 kord z1 z2
    exact ⟨by rw [ksz]; simpa using t1, by rw [u2]; exact t2⟩
  -- the statics' cell
  obtain ⟨cf, iU, kU, fU, sta, cS, s1, s2, s3, s4, s5, s6, s7⟩ := U0
  obtain ⟨kU', g1, g2⟩ := State.fieldFound?_setVm (s := Z) h7.alike s1
  have g1' : (x.s.setVm vm0).fieldFound? tN "UNASSIGNED_STACK" steD = some (cf, kU', iU, fU) := g1
  cases g1'.symm.trans y6
  have g4 : TT.kT.statics = some sta := by rw [g2]; exact s4
  cases g4.symm.trans LL.statics
  have hknS : cS.vm ≠ .unknown := fun q => by rw [q] at s6; cases s6
  have hneS : TT.aS ≠ a := fun q => by
    rw [q, e1] at s5
    cases s5
    rw [u2] at s6
    cases s6
  -- the fields
  obtain ⟨c3, cf3, k3, i3', f3, b1, b2, -, -, -, -, b7⟩ := Fs
  cases e1.symm.trans b1
  obtain ⟨k3', g3, -⟩ := State.fieldFound?_setVm (s := Z) h7.alike b2
  have g3' : (x.s.setVm vm0).fieldFound? tN "stackTrace" steD = some (cf3, k3', i3', f3) := g3
  cases g3'.symm.trans y4
  obtain ⟨c5, cf5, k5, i5, f5, d1, d2, -, -, -, -, d7⟩ := Fb
  cases e1.symm.trans d1
  obtain ⟨k5', g5, -⟩ := State.fieldFound?_setVm (s := Z) h7.alike d2
  have g5' : (x.s.setVm vm0).fieldFound? tN "backtrace" obD = some (cf5, k5', i5, f5) := g5
  cases g5'.symm.trans y8
  have tyS := (Cond.laysAt f2 q1 y4 (W' (.lays rc tN "stackTrace" steD) (by simp [excAtoms]) (by simp [lackW]))).1
  have tyB := (Cond.laysAt f2 q1 y8 (W' (.lays rc tN "backtrace" obD) (by simp [excAtoms]) (by simp [lackW]))).1
  have tyD := (Cond.laysAt f2 q1 y11 (W' (.lays rc tN "depth" "I") (by simp [excAtoms]) (by simp [lackW]))).1
  have fS : fits TT.fStack.type u = true := by rw [y5]; exact fits_refV_array _ ⟨u, hu⟩
  have hsel0 : selectMethod x.e.platform (x.s.setVm vm0).vm cell.cls TT.fill0 = .method TT.fill0 := by
    obtain ⟨c2, r2, m2, p1, p2, p3, p4, -⟩ := Cond.selects_spec (W' (.selects rc tFill0 tFill0) (by simp [excAtoms]) (by simp [lackW]))
    cases Option.some.inj (p1.symm.trans f2)
    cases Option.some.inj (p2.symm.trans (State.methodFound?_of_named y3 (by decide)))
    cases Option.some.inj (p3.symm.trans y3)
    rw [Launch.admits_selectMethod X.admits]; exact p4
  obtain ⟨comp, cO, kO, -, -, hkO, hkindO, hO⟩ := Cond.arrayOver_spec (W' (.arrayOver (.object "java/lang/Object")) (by simp [excAtoms]) (by simp [lackW]))
  have hSE := W' (.selects rc tFill tFill) (by simp [excAtoms]) (by simp [lackW])
  have hown : (x.s.setVm vm0).vm.findClass tN = some x.m.cls := by have q := h8; rw [hby] at q; exact q
  obtain ⟨v6, vm6, ⟨T6, L6, c6, n6⟩, -, X6, ⟨hv6, C6, nn, hnn, hD6, r1, r2, r3, -, hL6, hc6, hn6⟩, come⟩ := X.virtualBack B.2.1 (own := tN) (C := rc) (index := 27) (y := tFill) (z := tFill) hown
    (W' (.methodLink tN 27 tFill) (by simp [excAtoms, throwableAtoms]) (by simp [lackW])) (W' (.declares tFill) (by simp [excAtoms]) (by simp [lackW])) (notFace_of_selects hSE) hSE (W' (.instanceMethod tFill) (by simp [excAtoms, throwableAtoms]) (by simp [lackW])) (by decide)
    (fillPaysAny (l := x.l) (W := 0) B.2.1 htr TT LL y2 (u0 := ⟨u, hu⟩) (self := a) (cell := cell) (cellS := cS) (fun _ => by rw [u2]; simp) (by rw [u2]; simp) (by rw [u3]) (by rw [u3]) b7 hsel0 hneS hknS s7 (tk tyS fS)
      ⟨Bk, y7, d7⟩ (h14 hkn).1 (h14 hkn).2 y1 hO hkO hkindO y10 y13 (fun z => tk tyB (by rw [y9]; rfl)) (fun z => tk tyD (by rw [y12]; rfl)) (by omega) (by omega))
    (b := a) (cB := cell.cls) f2 ⟨cell, by rw [h3]; exact e1, rfl, by rw [u2]; rfl⟩ (g := mkF x.m pc Ls [.ref a]) rfl (hLs.trans B.2.2.2.1.symm) (Steps.refl _) (argsL := []) (rest := [])
    (fun sig hq => by rw [show parseMethodDescriptor tFill.desc = some ⟨[], some (.object tN)⟩ from by decide +kernel] at hq; rw [← Option.some.inj hq]; rfl) rfl (by show 2 * 0 + 0 ≤ 0; decide) (hb B.2.2.1 hd)
    (fun vmx _ => ⟨rfl, by show 0 + 1 ≤ b.R.cells; omega, by show 0 + 2752 ≤ b.R.slots; omega, by show T.heap[a]? = _; rw [h3]; exact e1, by show T.heap[TT.aS]? = _; rw [h3]; exact s5⟩)
  dsimp only [Pt.U, Pt.locs, Pt.cells, Pt.slots] at X6 hD6 hL6 hc6 hn6 come
  subst hv6 hL6 hc6 hn6
  have hL : ∀ y ∈ locs ++ [(⟨a, Bk.fBack.slot⟩ : Loc), ⟨a, fD.slot⟩, ⟨a, TT.fStack.slot⟩], y.base = a := fun y hy => by
    rcases List.mem_append.mp hy with hy | hy
    · have q := hlc y hy; rw [hsf] at q; exact List.mem_singleton.mp q
    · simp only [List.mem_cons, List.not_mem_nil, or_false] at hy
      rcases hy with rfl | rfl | rfl <;> rfl
  have keepS : Jvm.Free.Exc.Kept (x.s.setVm vm0) T6 (locs ++ [(⟨a, Bk.fBack.slot⟩ : Loc), ⟨a, fD.slot⟩, ⟨a, TT.fStack.slot⟩]) := fun y cy hy => X6.same.2.2.2.2.2 y cy hy
  have k10 : Keep x.s.heap h [a] := by rw [← hsf]; exact h10
  have oth : ∀ (y : Addr) (c : Cell), h[y]? = some c → y ≠ a → T6.heap[y]? = some c := fun y c hy hne => by
    have lt : y < h.size := (Array.getElem?_eq_some_iff.mp hy).1
    rw [hsz] at lt
    have g0 : x.s.heap[y]? = some x.s.heap[y] := Array.getElem?_eq_getElem lt
    have g1 := k10.2.1 y _ g0 (by simpa using hne)
    cases hy.symm.trans g1
    exact Jvm.Free.Exc.Kept.other keepS hL hne g0
  have hK : Keep h T6.heap [a] := by
    refine ⟨by rw [hsz]; exact X6.same.2.1, fun y c hy hne => oth y c hy (by simpa using hne), fun y c hy => ?_⟩
    by_cases hya : y = a
    · subst hya
      cases e1.symm.trans hy
      exact ⟨C6, hD6, r1, r2, r3⟩
    · exact ⟨c, oth y c hy hya, rfl, rfl, rfl⟩
  have hm := h12 a ha
  have E' : Exa Z T6.heap a rc := E.keep hK
  have hCH := CHr.keep hK (allS hm.2.2.2 all0) h9.1
  refine ⟨T6.heap, hK, E', fld_laid E' ⟨C6, hD6, by rw [r2, u2]; simp⟩ wi (Or.inl (W _ (by simp [excAtoms]) (by simp [lackW]))), B, T6, _, _, _, vm0, k0,
    ⟨X6, by omega, by omega, rfl, h4.app fun y hy => ?_, h5, Nat.le_trans h6 hK.1, h7, h8, h9.trans hCH, h10.trans hK (fun z hz => Or.inl (by rw [hsf]; exact hz)), Ext.ofKeep h11 hK (allS hm.2.1 all0), fun z hz => ?_, h13, h14⟩, fun t q => k t (come.trans q)⟩
  · have q := hL y (List.mem_append.mpr (Or.inr hy))
    rw [q]; exact hm.2.1
  · obtain ⟨z1, z2, z3, z4⟩ := h12 z hz
    exact ⟨z1, z2, Nat.lt_of_lt_of_le z3 hK.1, hCH.safe z3 z4⟩
/-- invokevirtual of a method that a superclass of the named class declares -/
theorem Hr.callUp {y z : MethodName} {bytes : ByteArray} {maxL : Nat} {ret : Option FieldType} {rm : Room} {as' : Array Value} {sf' : List Addr} {Q : Option Value → Heap → List Addr → Prop} {index : Nat} {cls owner : String} {argsL rest : List Value} {ps : List FieldType} {rt : Option FieldType}
    (H : Hr x b Z EL K S h sf pc Ls st) (C : Ct x.l Z EL z bytes maxL ret rm as' h sf' x.nar x.kn Q) (sub : ∀ a ∈ sf', a ∈ sf) (E : Exa Z h a cls)
    (w1 : (Jvm.Cond.methodLink b.y.cls index y).before a0 Z = true) (w2 : (Jvm.Cond.sameMethod y.cls owner y.name y.desc).before a0 Z = true) (wd : (Jvm.Cond.declares ⟨owner, y.name, y.desc⟩).before a0 Z = true) (ws : (Jvm.Cond.selects cls y z).before a0 Z = true) (wi : (Jvm.Cond.instanceMethod z).before a0 Z = true) (w3 : (Jvm.Cond.initialized z.cls).before a0 Z = true) (w4 : (Jvm.Cond.code z bytes maxL ret).before a0 Z = true)
    (hd : decode b.bytes pc = .ok (.invokevirtual index, 3)) (hp : parseMethodDescriptor y.desc = some ⟨ps, rt⟩) (hst : st = argsL.reverse ++ .ref a :: rest) (has : (Value.ref a :: argsL).toArray = as' := by rfl) (hl2 : argsL.length = ps.length := by rfl) (hy : owner ≠ "java/lang/invoke/MethodHandle" ∧ owner ≠ "java/lang/invoke/VarHandle" := by decide)
    (hf : rm.frames + 1 ≤ b.R.frames := by decide) {Wr : Nat} (hW : (rest.map fun v => v.category).sum = Wr := by rfl) (hl : Wr + (maxL + 11) + rm.locals ≤ b.R.locals := by decide) (hc : K + rm.cells ≤ b.R.cells := by decide) (hs : S + rm.slots ≤ b.R.slots := by decide) (hLs : Ls.size = b.maxL := by rfl) (hpc : pc + 3 = pc' := by rfl) :
    ∃ (v : Option Value) (h' : Heap) (sn : List Addr), Q v h' sn ∧ Keep h h' sf' ∧ Hr x b Z EL (K + rm.cells) (S + rm.slots) h' (sn ++ sf) pc' Ls (v.toList ++ rest) := by
  subst has hpc hW
  obtain ⟨B, T, locs, cells, slots, vm0, k0, X, k⟩ := H
  have X2 := X
  obtain ⟨X1, h1, h2, h3, h4, h5, h6, h7, h8, h9, h10, h11, h12, h13, h14⟩ := X2
  obtain ⟨cB, kB, i1, i2, i3⟩ := isOf (s := x.s.setVm vm0) (T := T) h7 h3 E
  obtain ⟨v, vm₁, P, -, X', hS, hgr, hp', hsteps⟩ := X1.virtualBackUpS B.2.1 (x := y) (y := z) (owner := owner) h8 (mvT h7 w1) (mvT h7 w2) (mvT h7 wd) hy (mvT h7 ws) (mvT h7 wi)
    (C.backS (W := (rest.map fun v => v.category).sum) h7 w4 w3 hf hl B.1.choose_spec h9.1 h11 (fun z hz => (h12 z (sub z hz)).2) h14) i1 i3
    (g := mkF x.m pc Ls st) rfl (hLs.trans B.2.2.2.1.symm) (Steps.refl _) (argsL := argsL) (rest := rest) (lenOf hp hl2) hst (by show 2 * 0 + _ ≤ _; omega) (hb B.2.2.1 hd) (fun vm₁ _ => ⟨rfl, h3, by show cells + _ ≤ _; omega, by show slots + _ ≤ _; omega⟩)
  obtain ⟨h', sn, r1, r2, r3⟩ := Hr.after (rm := rm) (sf' := sf') (Q := Q) B X k sub X' hS hgr hp' hsteps
  exact ⟨v, h', sn, r1, r2, r3⟩
/-- what the claim's two calls say of the tables and of the frames -/
theorem methods_known {s : State} (h : Jvm.D.tablesKnown s = true) : s.vm.MethodsKnown := fun m x hm => by
  obtain ⟨k, hk⟩ : ∃ k, s.vm.classes[m.cls]? = some k := by
    cases q : s.vm.classes[m.cls]? with
    | none => simp [Vm.method?, q] at hm
    | some k => exact ⟨k, rfl⟩
  have hx : k.methods[m.idx]? = some x := by simpa [Vm.method?, hk] using hm
  have hlt := (Array.getElem?_eq_some_iff.mp hx).1
  refine ⟨k, hk, fun cf hcf => ?_⟩
  have hall := Array.all_eq_true_iff_forall_mem.mp h k (Array.mem_of_getElem? hk)
  rw [hcf] at hall
  have hsz : k.methods.size = cf.methods.size := by simpa using hall
  rw [Array.getElem?_eq_getElem (by omega)]
  rfl
theorem known_of {vm : Vm} {m : MethodId} (h : Jvm.D.methodKnown vm m = true) : vm.knowsMethod m := by
  unfold Jvm.D.methodKnown at h
  cases hk : vm.classes[m.cls]? with
  | none => rw [hk] at h; cases h
  | some k =>
    refine ⟨k, hk, fun cf hcf => ?_⟩
    rw [hk] at h
    simp only [hcf] at h
    exact h
theorem frames_known {s : State} {f : Frame} {below : List Frame} (h : Jvm.D.framesKnown s = true) (hf : s.frames = f :: below) : s.vm.FramesKnown below := fun y hy m' hm => by
  have q := List.all_eq_true.mp h y (by rw [hf]; exact List.mem_cons_of_mem _ hy)
  cases y with
  | java g => cases hm; exact known_of q
  | native n => cases hm; exact known_of q
  | _ => cases hm
end Layer9
end Jvm.Pilot.@@N@@
namespace Jvm.Pilot.@@N@@
open Jvm Jvm.ClassFile Sem Op Lib Bundle Jvm.Free Jvm.Stand Jvm.LawKit Jvm.RoadKit Jvm.Pilot.@@N@@.Jvm.D
theorem w0 {a0 : Array Value} {Z : State} (hw : ∀ d ∈ tables_1, d.before a0 Z = true) : ((Jvm.Cond.classLink "com/example/rungway/rungway/framework/InstallExceptionInvalidHeaderPinLaw" (7 : Nat) "java/lang/String") : Jvm.Cond).before a0 Z = true := hw _ (List.mem_of_getElem? (i := 0) rfl)
theorem w1 {a0 : Array Value} {Z : State} (hw : ∀ d ∈ tables_1, d.before a0 Z = true) : ((Jvm.Cond.instantiable "java/lang/String" (4 : Nat)) : Jvm.Cond).before a0 Z = true := hw _ (List.mem_of_getElem? (i := 1) rfl)
theorem w2 {a0 : Array Value} {Z : State} (hw : ∀ d ∈ tables_1, d.before a0 Z = true) : ((Jvm.Cond.initialized "java/lang/String") : Jvm.Cond).before a0 Z = true := hw _ (List.mem_of_getElem? (i := 2) rfl)
theorem w3 {a0 : Array Value} {Z : State} (hw : ∀ d ∈ tables_1, d.before a0 Z = true) : ((Jvm.Cond.arrayClass Jvm.ClassFile.FieldType.char) : Jvm.Cond).before a0 Z = true := hw _ (List.mem_of_getElem? (i := 3) rfl)
theorem w4 {a0 : Array Value} {Z : State} (hw : ∀ d ∈ tables_1, d.before a0 Z = true) : ((Jvm.Cond.methodLink "com/example/rungway/rungway/framework/InstallExceptionInvalidHeaderPinLaw" (9 : Nat) ({ cls := "java/lang/String", name := "<init>", desc := "([C)V" } : Jvm.MethodName)) : Jvm.Cond).before a0 Z = true := hw _ (List.mem_of_getElem? (i := 4) rfl)
theorem w5 {a0 : Array Value} {Z : State} (hw : ∀ d ∈ tables_1, d.before a0 Z = true) : ((Jvm.Cond.instanceMethod ({ cls := "java/lang/String", name := "<init>", desc := "([C)V" } : Jvm.MethodName)) : Jvm.Cond).before a0 Z = true := hw _ (List.mem_of_getElem? (i := 5) rfl)
theorem w6 {a0 : Array Value} {Z : State} (hw : ∀ d ∈ tables_1, d.before a0 Z = true) : ((Jvm.Cond.code ({ cls := "java/lang/String", name := "<init>", desc := "([C)V" } : Jvm.MethodName) jdk_42_method_3_code (2 : Nat) (Option.none : Option Jvm.ClassFile.FieldType)) : Jvm.Cond).before a0 Z = true := hw _ (List.mem_of_getElem? (i := 6) rfl)
theorem w7 {a0 : Array Value} {Z : State} (hw : ∀ d ∈ tables_1, d.before a0 Z = true) : ((Jvm.Cond.methodLink "java/lang/String" (27 : Nat) ({ cls := "java/lang/String", name := "<init>", desc := "([CIILjava/lang/Void;)V" } : Jvm.MethodName)) : Jvm.Cond).before a0 Z = true := hw _ (List.mem_of_getElem? (i := 7) rfl)
theorem w8 {a0 : Array Value} {Z : State} (hw : ∀ d ∈ tables_1, d.before a0 Z = true) : ((Jvm.Cond.instanceMethod ({ cls := "java/lang/String", name := "<init>", desc := "([CIILjava/lang/Void;)V" } : Jvm.MethodName)) : Jvm.Cond).before a0 Z = true := hw _ (List.mem_of_getElem? (i := 8) rfl)
theorem w10 {a0 : Array Value} {Z : State} (hw : ∀ d ∈ tables_1, d.before a0 Z = true) : ((Jvm.Cond.code ({ cls := "java/lang/String", name := "<init>", desc := "([CIILjava/lang/Void;)V" } : Jvm.MethodName) jdk_42_method_149_code (6 : Nat) (Option.none : Option Jvm.ClassFile.FieldType)) : Jvm.Cond).before a0 Z = true := hw _ (List.mem_of_getElem? (i := 10) rfl)
theorem w11 {a0 : Array Value} {Z : State} (hw : ∀ d ∈ tables_1, d.before a0 Z = true) : ((Jvm.Cond.methodLink "java/lang/String" (1 : Nat) ({ cls := "java/lang/Object", name := "<init>", desc := "()V" } : Jvm.MethodName)) : Jvm.Cond).before a0 Z = true := hw _ (List.mem_of_getElem? (i := 11) rfl)
theorem w12 {a0 : Array Value} {Z : State} (hw : ∀ d ∈ tables_1, d.before a0 Z = true) : ((Jvm.Cond.instanceMethod ({ cls := "java/lang/Object", name := "<init>", desc := "()V" } : Jvm.MethodName)) : Jvm.Cond).before a0 Z = true := hw _ (List.mem_of_getElem? (i := 12) rfl)
theorem w13 {a0 : Array Value} {Z : State} (hw : ∀ d ∈ tables_1, d.before a0 Z = true) : ((Jvm.Cond.code ({ cls := "java/lang/Object", name := "<init>", desc := "()V" } : Jvm.MethodName) object_method_1_code (1 : Nat) (Option.none : Option Jvm.ClassFile.FieldType)) : Jvm.Cond).before a0 Z = true := hw _ (List.mem_of_getElem? (i := 13) rfl)
theorem w14 {a0 : Array Value} {Z : State} (hw : ∀ d ∈ tables_1, d.before a0 Z = true) : ((Jvm.Cond.stringLink "java/lang/String" (7 : Nat) "") : Jvm.Cond).before a0 Z = true := hw _ (List.mem_of_getElem? (i := 14) rfl)
theorem w15 {a0 : Array Value} {Z : State} (hw : ∀ d ∈ tables_1, d.before a0 Z = true) : ((Jvm.Cond.arrayClass Jvm.ClassFile.FieldType.byte) : Jvm.Cond).before a0 Z = true := hw _ (List.mem_of_getElem? (i := 15) rfl)
theorem w16 {a0 : Array Value} {Z : State} (hw : ∀ d ∈ tables_1, d.before a0 Z = true) : ((Jvm.Cond.laysFinal "java/lang/String" "java/lang/String" "value" "[B") : Jvm.Cond).before a0 Z = true := hw _ (List.mem_of_getElem? (i := 16) rfl)
theorem w17 {a0 : Array Value} {Z : State} (hw : ∀ d ∈ tables_1, d.before a0 Z = true) : ((Jvm.Cond.laysFinal "java/lang/String" "java/lang/String" "coder" "B") : Jvm.Cond).before a0 Z = true := hw _ (List.mem_of_getElem? (i := 17) rfl)
theorem w18 {a0 : Array Value} {Z : State} (hw : ∀ d ∈ tables_1, d.before a0 Z = true) : ((Jvm.Cond.soleField "java/lang/String" "value") : Jvm.Cond).before a0 Z = true := hw _ (List.mem_of_getElem? (i := 18) rfl)
theorem w19 {a0 : Array Value} {Z : State} (hw : ∀ d ∈ tables_1, d.before a0 Z = true) : ((Jvm.Cond.soleField "java/lang/String" "coder") : Jvm.Cond).before a0 Z = true := hw _ (List.mem_of_getElem? (i := 19) rfl)
theorem w20 {a0 : Array Value} {Z : State} (hw : ∀ d ∈ tables_1, d.before a0 Z = true) : ((Jvm.Cond.fieldLink "java/lang/String" (9 : Nat) "java/lang/String" "value" "[B") : Jvm.Cond).before a0 Z = true := hw _ (List.mem_of_getElem? (i := 20) rfl)
theorem w21 {a0 : Array Value} {Z : State} (hw : ∀ d ∈ tables_1, d.before a0 Z = true) : ((Jvm.Cond.fieldLink "java/lang/String" (15 : Nat) "java/lang/String" "coder" "B") : Jvm.Cond).before a0 Z = true := hw _ (List.mem_of_getElem? (i := 21) rfl)
theorem w22 {a0 : Array Value} {Z : State} (hw : ∀ d ∈ tables_1, d.before a0 Z = true) : ((Jvm.Cond.methodLink "com/example/rungway/rungway/framework/InstallExceptionInvalidHeaderPinLaw" (16 : Nat) ({ cls := "com/example/rungway/rungway/framework/InstallException", name := "invalidHeader", desc := "(Ljava/lang/String;)Lcom/example/rungway/rungway/framework/InstallException;" } : Jvm.MethodName)) : Jvm.Cond).before a0 Z = true := hw _ (List.mem_of_getElem? (i := 22) rfl)
theorem w23 {a0 : Array Value} {Z : State} (hw : ∀ d ∈ tables_1, d.before a0 Z = true) : ((Jvm.Cond.static ({ cls := "com/example/rungway/rungway/framework/InstallException", name := "invalidHeader", desc := "(Ljava/lang/String;)Lcom/example/rungway/rungway/framework/InstallException;" } : Jvm.MethodName)) : Jvm.Cond).before a0 Z = true := hw _ (List.mem_of_getElem? (i := 23) rfl)
theorem w24 {a0 : Array Value} {Z : State} (hw : ∀ d ∈ tables_1, d.before a0 Z = true) : ((Jvm.Cond.initialized "com/example/rungway/rungway/framework/InstallException") : Jvm.Cond).before a0 Z = true := hw _ (List.mem_of_getElem? (i := 24) rfl)
theorem w25 {a0 : Array Value} {Z : State} (hw : ∀ d ∈ tables_1, d.before a0 Z = true) : ((Jvm.Cond.code ({ cls := "com/example/rungway/rungway/framework/InstallException", name := "invalidHeader", desc := "(Ljava/lang/String;)Lcom/example/rungway/rungway/framework/InstallException;" } : Jvm.MethodName) prog_8_method_2_code (1 : Nat) (Option.some (Jvm.ClassFile.FieldType.object "com/example/rungway/rungway/framework/InstallException"))) : Jvm.Cond).before a0 Z = true := hw _ (List.mem_of_getElem? (i := 25) rfl)
theorem w26 {a0 : Array Value} {Z : State} (hw : ∀ d ∈ tables_1, d.before a0 Z = true) : ((Jvm.Cond.classLink "com/example/rungway/rungway/framework/InstallException" (7 : Nat) "com/example/rungway/rungway/framework/InstallException") : Jvm.Cond).before a0 Z = true := hw _ (List.mem_of_getElem? (i := 26) rfl)
theorem w27 {a0 : Array Value} {Z : State} (hw : ∀ d ∈ tables_1, d.before a0 Z = true) : ((Jvm.Cond.instantiable "com/example/rungway/rungway/framework/InstallException" (6 : Nat)) : Jvm.Cond).before a0 Z = true := hw _ (List.mem_of_getElem? (i := 27) rfl)
theorem w28 {a0 : Array Value} {Z : State} (hw : ∀ d ∈ tables_1, d.before a0 Z = true) : ((Jvm.Cond.classLink "com/example/rungway/rungway/framework/InstallException" (9 : Nat) "java/lang/StringBuilder") : Jvm.Cond).before a0 Z = true := hw _ (List.mem_of_getElem? (i := 28) rfl)
theorem w29 {a0 : Array Value} {Z : State} (hw : ∀ d ∈ tables_1, d.before a0 Z = true) : ((Jvm.Cond.instantiable "java/lang/StringBuilder" (4 : Nat)) : Jvm.Cond).before a0 Z = true := hw _ (List.mem_of_getElem? (i := 29) rfl)
theorem w30 {a0 : Array Value} {Z : State} (hw : ∀ d ∈ tables_1, d.before a0 Z = true) : ((Jvm.Cond.initialized "java/lang/StringBuilder") : Jvm.Cond).before a0 Z = true := hw _ (List.mem_of_getElem? (i := 30) rfl)
theorem w31 {a0 : Array Value} {Z : State} (hw : ∀ d ∈ tables_1, d.before a0 Z = true) : ((Jvm.Cond.methodLink "com/example/rungway/rungway/framework/InstallException" (11 : Nat) ({ cls := "java/lang/StringBuilder", name := "<init>", desc := "()V" } : Jvm.MethodName)) : Jvm.Cond).before a0 Z = true := hw _ (List.mem_of_getElem? (i := 31) rfl)
theorem w32 {a0 : Array Value} {Z : State} (hw : ∀ d ∈ tables_1, d.before a0 Z = true) : ((Jvm.Cond.instanceMethod ({ cls := "java/lang/StringBuilder", name := "<init>", desc := "()V" } : Jvm.MethodName)) : Jvm.Cond).before a0 Z = true := hw _ (List.mem_of_getElem? (i := 32) rfl)
theorem w33 {a0 : Array Value} {Z : State} (hw : ∀ d ∈ tables_1, d.before a0 Z = true) : ((Jvm.Cond.code ({ cls := "java/lang/StringBuilder", name := "<init>", desc := "()V" } : Jvm.MethodName) jdk_67_method_1_code (1 : Nat) (Option.none : Option Jvm.ClassFile.FieldType)) : Jvm.Cond).before a0 Z = true := hw _ (List.mem_of_getElem? (i := 33) rfl)
theorem w34 {a0 : Array Value} {Z : State} (hw : ∀ d ∈ tables_1, d.before a0 Z = true) : ((Jvm.Cond.methodLink "java/lang/StringBuilder" (1 : Nat) ({ cls := "java/lang/AbstractStringBuilder", name := "<init>", desc := "(I)V" } : Jvm.MethodName)) : Jvm.Cond).before a0 Z = true := hw _ (List.mem_of_getElem? (i := 34) rfl)
theorem w35 {a0 : Array Value} {Z : State} (hw : ∀ d ∈ tables_1, d.before a0 Z = true) : ((Jvm.Cond.instanceMethod ({ cls := "java/lang/AbstractStringBuilder", name := "<init>", desc := "(I)V" } : Jvm.MethodName)) : Jvm.Cond).before a0 Z = true := hw _ (List.mem_of_getElem? (i := 35) rfl)
theorem w38 {a0 : Array Value} {Z : State} (hw : ∀ d ∈ tables_1, d.before a0 Z = true) : ((Jvm.Cond.initialized "java/lang/AbstractStringBuilder") : Jvm.Cond).before a0 Z = true := hw _ (List.mem_of_getElem? (i := 38) rfl)
theorem w39 {a0 : Array Value} {Z : State} (hw : ∀ d ∈ tables_1, d.before a0 Z = true) : ((Jvm.Cond.code ({ cls := "java/lang/AbstractStringBuilder", name := "<init>", desc := "(I)V" } : Jvm.MethodName) jdk_68_method_2_code (2 : Nat) (Option.none : Option Jvm.ClassFile.FieldType)) : Jvm.Cond).before a0 Z = true := hw _ (List.mem_of_getElem? (i := 39) rfl)
theorem w40 {a0 : Array Value} {Z : State} (hw : ∀ d ∈ tables_1, d.before a0 Z = true) : ((Jvm.Cond.methodLink "java/lang/AbstractStringBuilder" (3 : Nat) ({ cls := "java/lang/Object", name := "<init>", desc := "()V" } : Jvm.MethodName)) : Jvm.Cond).before a0 Z = true := hw _ (List.mem_of_getElem? (i := 40) rfl)
theorem w41 {a0 : Array Value} {Z : State} (hw : ∀ d ∈ tables_1, d.before a0 Z = true) : ((Jvm.Cond.fieldLink "java/lang/AbstractStringBuilder" (18 : Nat) "java/lang/String" "COMPACT_STRINGS" "Z") : Jvm.Cond).before a0 Z = true := hw _ (List.mem_of_getElem? (i := 41) rfl)
theorem w42 {a0 : Array Value} {Z : State} (hw : ∀ d ∈ tables_1, d.before a0 Z = true) : ((Jvm.Cond.fieldLink "java/lang/AbstractStringBuilder" (15 : Nat) "java/lang/AbstractStringBuilder" "value" "[B") : Jvm.Cond).before a0 Z = true := hw _ (List.mem_of_getElem? (i := 42) rfl)
theorem w43 {a0 : Array Value} {Z : State} (hw : ∀ d ∈ tables_1, d.before a0 Z = true) : ((Jvm.Cond.lays "java/lang/StringBuilder" "java/lang/AbstractStringBuilder" "value" "[B") : Jvm.Cond).before a0 Z = true := hw _ (List.mem_of_getElem? (i := 43) rfl)
theorem w44 {a0 : Array Value} {Z : State} (hw : ∀ d ∈ tables_1, d.before a0 Z = true) : ((Jvm.Cond.fieldLink "java/lang/AbstractStringBuilder" (22 : Nat) "java/lang/AbstractStringBuilder" "coder" "B") : Jvm.Cond).before a0 Z = true := hw _ (List.mem_of_getElem? (i := 44) rfl)
theorem w45 {a0 : Array Value} {Z : State} (hw : ∀ d ∈ tables_1, d.before a0 Z = true) : ((Jvm.Cond.lays "java/lang/StringBuilder" "java/lang/AbstractStringBuilder" "coder" "B") : Jvm.Cond).before a0 Z = true := hw _ (List.mem_of_getElem? (i := 45) rfl)
theorem w46 {a0 : Array Value} {Z : State} (hw : ∀ d ∈ tables_1, d.before a0 Z = true) : ((Jvm.Cond.stringLink "com/example/rungway/rungway/framework/InstallException" (14 : Nat) "invalid header ") : Jvm.Cond).before a0 Z = true := hw _ (List.mem_of_getElem? (i := 46) rfl)
theorem w47 {a0 : Array Value} {Z : State} (hw : ∀ d ∈ tables_1, d.before a0 Z = true) : ((Jvm.Cond.methodLink "com/example/rungway/rungway/framework/InstallException" (16 : Nat) ({ cls := "java/lang/StringBuilder", name := "append", desc := "(Ljava/lang/String;)Ljava/lang/StringBuilder;" } : Jvm.MethodName)) : Jvm.Cond).before a0 Z = true := hw _ (List.mem_of_getElem? (i := 47) rfl)
theorem w48 {a0 : Array Value} {Z : State} (hw : ∀ d ∈ tables_1, d.before a0 Z = true) : ((Jvm.Cond.declares ({ cls := "java/lang/StringBuilder", name := "append", desc := "(Ljava/lang/String;)Ljava/lang/StringBuilder;" } : Jvm.MethodName)) : Jvm.Cond).before a0 Z = true := hw _ (List.mem_of_getElem? (i := 48) rfl)
theorem w49 {a0 : Array Value} {Z : State} (hw : ∀ d ∈ tables_1, d.before a0 Z = true) : ((Jvm.Cond.instanceMethod ({ cls := "java/lang/StringBuilder", name := "append", desc := "(Ljava/lang/String;)Ljava/lang/StringBuilder;" } : Jvm.MethodName)) : Jvm.Cond).before a0 Z = true := hw _ (List.mem_of_getElem? (i := 49) rfl)
theorem w50 {a0 : Array Value} {Z : State} (hw : ∀ d ∈ tables_1, d.before a0 Z = true) : ((Jvm.Cond.selects "java/lang/StringBuilder" ({ cls := "java/lang/StringBuilder", name := "append", desc := "(Ljava/lang/String;)Ljava/lang/StringBuilder;" } : Jvm.MethodName) ({ cls := "java/lang/StringBuilder", name := "append", desc := "(Ljava/lang/String;)Ljava/lang/StringBuilder;" } : Jvm.MethodName)) : Jvm.Cond).before a0 Z = true := hw _ (List.mem_of_getElem? (i := 50) rfl)
theorem w51 {a0 : Array Value} {Z : State} (hw : ∀ d ∈ tables_1, d.before a0 Z = true) : ((Jvm.Cond.code ({ cls := "java/lang/StringBuilder", name := "append", desc := "(Ljava/lang/String;)Ljava/lang/StringBuilder;" } : Jvm.MethodName) jdk_67_method_7_code (2 : Nat) (Option.some (Jvm.ClassFile.FieldType.object "java/lang/StringBuilder"))) : Jvm.Cond).before a0 Z = true := hw _ (List.mem_of_getElem? (i := 51) rfl)
theorem w52 {a0 : Array Value} {Z : State} (hw : ∀ d ∈ tables_1, d.before a0 Z = true) : ((Jvm.Cond.methodLink "java/lang/StringBuilder" (29 : Nat) ({ cls := "java/lang/AbstractStringBuilder", name := "append", desc := "(Ljava/lang/String;)Ljava/lang/AbstractStringBuilder;" } : Jvm.MethodName)) : Jvm.Cond).before a0 Z = true := hw _ (List.mem_of_getElem? (i := 52) rfl)
theorem w53 {a0 : Array Value} {Z : State} (hw : ∀ d ∈ tables_1, d.before a0 Z = true) : ((Jvm.Cond.instanceMethod ({ cls := "java/lang/AbstractStringBuilder", name := "append", desc := "(Ljava/lang/String;)Ljava/lang/AbstractStringBuilder;" } : Jvm.MethodName)) : Jvm.Cond).before a0 Z = true := hw _ (List.mem_of_getElem? (i := 53) rfl)
theorem w54 {a0 : Array Value} {Z : State} (hw : ∀ d ∈ tables_1, d.before a0 Z = true) : ((Jvm.Cond.superclass "java/lang/StringBuilder" "java/lang/AbstractStringBuilder") : Jvm.Cond).before a0 Z = true := hw _ (List.mem_of_getElem? (i := 54) rfl)
theorem w56 {a0 : Array Value} {Z : State} (hw : ∀ d ∈ tables_1, d.before a0 Z = true) : ((Jvm.Cond.code ({ cls := "java/lang/AbstractStringBuilder", name := "append", desc := "(Ljava/lang/String;)Ljava/lang/AbstractStringBuilder;" } : Jvm.MethodName) jdk_68_method_22_code (3 : Nat) (Option.some (Jvm.ClassFile.FieldType.object "java/lang/AbstractStringBuilder"))) : Jvm.Cond).before a0 Z = true := hw _ (List.mem_of_getElem? (i := 56) rfl)
theorem w57 {a0 : Array Value} {Z : State} (hw : ∀ d ∈ tables_1, d.before a0 Z = true) : ((Jvm.Cond.methodLink "java/lang/AbstractStringBuilder" (32 : Nat) ({ cls := "java/lang/String", name := "length", desc := "()I" } : Jvm.MethodName)) : Jvm.Cond).before a0 Z = true := hw _ (List.mem_of_getElem? (i := 57) rfl)
theorem w58 {a0 : Array Value} {Z : State} (hw : ∀ d ∈ tables_1, d.before a0 Z = true) : ((Jvm.Cond.declares ({ cls := "java/lang/String", name := "length", desc := "()I" } : Jvm.MethodName)) : Jvm.Cond).before a0 Z = true := hw _ (List.mem_of_getElem? (i := 58) rfl)
theorem w59 {a0 : Array Value} {Z : State} (hw : ∀ d ∈ tables_1, d.before a0 Z = true) : ((Jvm.Cond.instanceMethod ({ cls := "java/lang/String", name := "length", desc := "()I" } : Jvm.MethodName)) : Jvm.Cond).before a0 Z = true := hw _ (List.mem_of_getElem? (i := 59) rfl)
theorem w60 {a0 : Array Value} {Z : State} (hw : ∀ d ∈ tables_1, d.before a0 Z = true) : ((Jvm.Cond.selects "java/lang/String" ({ cls := "java/lang/String", name := "length", desc := "()I" } : Jvm.MethodName) ({ cls := "java/lang/String", name := "length", desc := "()I" } : Jvm.MethodName)) : Jvm.Cond).before a0 Z = true := hw _ (List.mem_of_getElem? (i := 60) rfl)
theorem w61 {a0 : Array Value} {Z : State} (hw : ∀ d ∈ tables_1, d.before a0 Z = true) : ((Jvm.Cond.code ({ cls := "java/lang/String", name := "length", desc := "()I" } : Jvm.MethodName) jdk_42_method_54_code (1 : Nat) (Option.some Jvm.ClassFile.FieldType.int)) : Jvm.Cond).before a0 Z = true := hw _ (List.mem_of_getElem? (i := 61) rfl)
theorem w62 {a0 : Array Value} {Z : State} (hw : ∀ d ∈ tables_1, d.before a0 Z = true) : ((Jvm.Cond.methodLink "java/lang/String" (335 : Nat) ({ cls := "java/lang/String", name := "coder", desc := "()B" } : Jvm.MethodName)) : Jvm.Cond).before a0 Z = true := hw _ (List.mem_of_getElem? (i := 62) rfl)
theorem w63 {a0 : Array Value} {Z : State} (hw : ∀ d ∈ tables_1, d.before a0 Z = true) : ((Jvm.Cond.declares ({ cls := "java/lang/String", name := "coder", desc := "()B" } : Jvm.MethodName)) : Jvm.Cond).before a0 Z = true := hw _ (List.mem_of_getElem? (i := 63) rfl)
theorem w64 {a0 : Array Value} {Z : State} (hw : ∀ d ∈ tables_1, d.before a0 Z = true) : ((Jvm.Cond.instanceMethod ({ cls := "java/lang/String", name := "coder", desc := "()B" } : Jvm.MethodName)) : Jvm.Cond).before a0 Z = true := hw _ (List.mem_of_getElem? (i := 64) rfl)
theorem w65 {a0 : Array Value} {Z : State} (hw : ∀ d ∈ tables_1, d.before a0 Z = true) : ((Jvm.Cond.selects "java/lang/String" ({ cls := "java/lang/String", name := "coder", desc := "()B" } : Jvm.MethodName) ({ cls := "java/lang/String", name := "coder", desc := "()B" } : Jvm.MethodName)) : Jvm.Cond).before a0 Z = true := hw _ (List.mem_of_getElem? (i := 65) rfl)
theorem w66 {a0 : Array Value} {Z : State} (hw : ∀ d ∈ tables_1, d.before a0 Z = true) : ((Jvm.Cond.code ({ cls := "java/lang/String", name := "coder", desc := "()B" } : Jvm.MethodName) jdk_42_method_152_code (1 : Nat) (Option.some Jvm.ClassFile.FieldType.byte)) : Jvm.Cond).before a0 Z = true := hw _ (List.mem_of_getElem? (i := 66) rfl)
theorem w67 {a0 : Array Value} {Z : State} (hw : ∀ d ∈ tables_1, d.before a0 Z = true) : ((Jvm.Cond.fieldLink "java/lang/String" (38 : Nat) "java/lang/String" "COMPACT_STRINGS" "Z") : Jvm.Cond).before a0 Z = true := hw _ (List.mem_of_getElem? (i := 67) rfl)
theorem w68 {a0 : Array Value} {Z : State} (hw : ∀ d ∈ tables_1, d.before a0 Z = true) : ((Jvm.Cond.fieldLink "java/lang/AbstractStringBuilder" (79 : Nat) "java/lang/AbstractStringBuilder" "count" "I") : Jvm.Cond).before a0 Z = true := hw _ (List.mem_of_getElem? (i := 68) rfl)
theorem w69 {a0 : Array Value} {Z : State} (hw : ∀ d ∈ tables_1, d.before a0 Z = true) : ((Jvm.Cond.lays "java/lang/StringBuilder" "java/lang/AbstractStringBuilder" "count" "I") : Jvm.Cond).before a0 Z = true := hw _ (List.mem_of_getElem? (i := 69) rfl)
theorem w70 {a0 : Array Value} {Z : State} (hw : ∀ d ∈ tables_1, d.before a0 Z = true) : ((Jvm.Cond.methodLink "java/lang/AbstractStringBuilder" (100 : Nat) ({ cls := "java/lang/AbstractStringBuilder", name := "ensureCapacityInternal", desc := "(I)V" } : Jvm.MethodName)) : Jvm.Cond).before a0 Z = true := hw _ (List.mem_of_getElem? (i := 70) rfl)
theorem w71 {a0 : Array Value} {Z : State} (hw : ∀ d ∈ tables_1, d.before a0 Z = true) : ((Jvm.Cond.instanceMethod ({ cls := "java/lang/AbstractStringBuilder", name := "ensureCapacityInternal", desc := "(I)V" } : Jvm.MethodName)) : Jvm.Cond).before a0 Z = true := hw _ (List.mem_of_getElem? (i := 71) rfl)
theorem w72 {a0 : Array Value} {Z : State} (hw : ∀ d ∈ tables_1, d.before a0 Z = true) : ((Jvm.Cond.privateMethod ({ cls := "java/lang/AbstractStringBuilder", name := "ensureCapacityInternal", desc := "(I)V" } : Jvm.MethodName)) : Jvm.Cond).before a0 Z = true := hw _ (List.mem_of_getElem? (i := 72) rfl)
theorem w73 {a0 : Array Value} {Z : State} (hw : ∀ d ∈ tables_1, d.before a0 Z = true) : ((Jvm.Cond.selects "java/lang/StringBuilder" ({ cls := "java/lang/AbstractStringBuilder", name := "ensureCapacityInternal", desc := "(I)V" } : Jvm.MethodName) ({ cls := "java/lang/AbstractStringBuilder", name := "ensureCapacityInternal", desc := "(I)V" } : Jvm.MethodName)) : Jvm.Cond).before a0 Z = true := hw _ (List.mem_of_getElem? (i := 73) rfl)
theorem w74 {a0 : Array Value} {Z : State} (hw : ∀ d ∈ tables_1, d.before a0 Z = true) : ((Jvm.Cond.code ({ cls := "java/lang/AbstractStringBuilder", name := "ensureCapacityInternal", desc := "(I)V" } : Jvm.MethodName) jdk_68_method_9_code (3 : Nat) (Option.none : Option Jvm.ClassFile.FieldType)) : Jvm.Cond).before a0 Z = true := hw _ (List.mem_of_getElem? (i := 74) rfl)
theorem w75 {a0 : Array Value} {Z : State} (hw : ∀ d ∈ tables_1, d.before a0 Z = true) : ((Jvm.Cond.methodLink "java/lang/AbstractStringBuilder" (208 : Nat) ({ cls := "java/lang/AbstractStringBuilder", name := "putStringAt", desc := "(ILjava/lang/String;)V" } : Jvm.MethodName)) : Jvm.Cond).before a0 Z = true := hw _ (List.mem_of_getElem? (i := 75) rfl)
theorem w76 {a0 : Array Value} {Z : State} (hw : ∀ d ∈ tables_1, d.before a0 Z = true) : ((Jvm.Cond.instanceMethod ({ cls := "java/lang/AbstractStringBuilder", name := "putStringAt", desc := "(ILjava/lang/String;)V" } : Jvm.MethodName)) : Jvm.Cond).before a0 Z = true := hw _ (List.mem_of_getElem? (i := 76) rfl)
theorem w77 {a0 : Array Value} {Z : State} (hw : ∀ d ∈ tables_1, d.before a0 Z = true) : ((Jvm.Cond.privateMethod ({ cls := "java/lang/AbstractStringBuilder", name := "putStringAt", desc := "(ILjava/lang/String;)V" } : Jvm.MethodName)) : Jvm.Cond).before a0 Z = true := hw _ (List.mem_of_getElem? (i := 77) rfl)
theorem w79 {a0 : Array Value} {Z : State} (hw : ∀ d ∈ tables_1, d.before a0 Z = true) : ((Jvm.Cond.code ({ cls := "java/lang/AbstractStringBuilder", name := "putStringAt", desc := "(ILjava/lang/String;)V" } : Jvm.MethodName) jdk_68_method_73_code (3 : Nat) (Option.none : Option Jvm.ClassFile.FieldType)) : Jvm.Cond).before a0 Z = true := hw _ (List.mem_of_getElem? (i := 79) rfl)
theorem w80 {a0 : Array Value} {Z : State} (hw : ∀ d ∈ tables_1, d.before a0 Z = true) : ((Jvm.Cond.methodLink "java/lang/AbstractStringBuilder" (397 : Nat) ({ cls := "java/lang/AbstractStringBuilder", name := "inflateIfNeededFor", desc := "(Ljava/lang/String;)V" } : Jvm.MethodName)) : Jvm.Cond).before a0 Z = true := hw _ (List.mem_of_getElem? (i := 80) rfl)
theorem w81 {a0 : Array Value} {Z : State} (hw : ∀ d ∈ tables_1, d.before a0 Z = true) : ((Jvm.Cond.instanceMethod ({ cls := "java/lang/AbstractStringBuilder", name := "inflateIfNeededFor", desc := "(Ljava/lang/String;)V" } : Jvm.MethodName)) : Jvm.Cond).before a0 Z = true := hw _ (List.mem_of_getElem? (i := 81) rfl)
theorem w82 {a0 : Array Value} {Z : State} (hw : ∀ d ∈ tables_1, d.before a0 Z = true) : ((Jvm.Cond.privateMethod ({ cls := "java/lang/AbstractStringBuilder", name := "inflateIfNeededFor", desc := "(Ljava/lang/String;)V" } : Jvm.MethodName)) : Jvm.Cond).before a0 Z = true := hw _ (List.mem_of_getElem? (i := 82) rfl)
theorem w84 {a0 : Array Value} {Z : State} (hw : ∀ d ∈ tables_1, d.before a0 Z = true) : ((Jvm.Cond.code ({ cls := "java/lang/AbstractStringBuilder", name := "inflateIfNeededFor", desc := "(Ljava/lang/String;)V" } : Jvm.MethodName) jdk_68_method_71_code (2 : Nat) (Option.none : Option Jvm.ClassFile.FieldType)) : Jvm.Cond).before a0 Z = true := hw _ (List.mem_of_getElem? (i := 84) rfl)
theorem w85 {a0 : Array Value} {Z : State} (hw : ∀ d ∈ tables_1, d.before a0 Z = true) : ((Jvm.Cond.methodLink "java/lang/AbstractStringBuilder" (40 : Nat) ({ cls := "java/lang/String", name := "coder", desc := "()B" } : Jvm.MethodName)) : Jvm.Cond).before a0 Z = true := hw _ (List.mem_of_getElem? (i := 85) rfl)
theorem w86 {a0 : Array Value} {Z : State} (hw : ∀ d ∈ tables_1, d.before a0 Z = true) : ((Jvm.Cond.methodLink "java/lang/AbstractStringBuilder" (399 : Nat) ({ cls := "java/lang/String", name := "getBytes", desc := "([BIB)V" } : Jvm.MethodName)) : Jvm.Cond).before a0 Z = true := hw _ (List.mem_of_getElem? (i := 86) rfl)
theorem w87 {a0 : Array Value} {Z : State} (hw : ∀ d ∈ tables_1, d.before a0 Z = true) : ((Jvm.Cond.declares ({ cls := "java/lang/String", name := "getBytes", desc := "([BIB)V" } : Jvm.MethodName)) : Jvm.Cond).before a0 Z = true := hw _ (List.mem_of_getElem? (i := 87) rfl)
theorem w88 {a0 : Array Value} {Z : State} (hw : ∀ d ∈ tables_1, d.before a0 Z = true) : ((Jvm.Cond.instanceMethod ({ cls := "java/lang/String", name := "getBytes", desc := "([BIB)V" } : Jvm.MethodName)) : Jvm.Cond).before a0 Z = true := hw _ (List.mem_of_getElem? (i := 88) rfl)
theorem w89 {a0 : Array Value} {Z : State} (hw : ∀ d ∈ tables_1, d.before a0 Z = true) : ((Jvm.Cond.selects "java/lang/String" ({ cls := "java/lang/String", name := "getBytes", desc := "([BIB)V" } : Jvm.MethodName) ({ cls := "java/lang/String", name := "getBytes", desc := "([BIB)V" } : Jvm.MethodName)) : Jvm.Cond).before a0 Z = true := hw _ (List.mem_of_getElem? (i := 89) rfl)
theorem w90 {a0 : Array Value} {Z : State} (hw : ∀ d ∈ tables_1, d.before a0 Z = true) : ((Jvm.Cond.code ({ cls := "java/lang/String", name := "getBytes", desc := "([BIB)V" } : Jvm.MethodName) jdk_42_method_147_code (4 : Nat) (Option.none : Option Jvm.ClassFile.FieldType)) : Jvm.Cond).before a0 Z = true := hw _ (List.mem_of_getElem? (i := 90) rfl)
theorem w91 {a0 : Array Value} {Z : State} (hw : ∀ d ∈ tables_1, d.before a0 Z = true) : ((Jvm.Cond.methodLink "java/lang/String" (212 : Nat) ({ cls := "java/lang/System", name := "arraycopy", desc := "(Ljava/lang/Object;ILjava/lang/Object;II)V" } : Jvm.MethodName)) : Jvm.Cond).before a0 Z = true := hw _ (List.mem_of_getElem? (i := 91) rfl)
theorem w92 {a0 : Array Value} {Z : State} (hw : ∀ d ∈ tables_1, d.before a0 Z = true) : ((Jvm.Cond.static ({ cls := "java/lang/System", name := "arraycopy", desc := "(Ljava/lang/Object;ILjava/lang/Object;II)V" } : Jvm.MethodName)) : Jvm.Cond).before a0 Z = true := hw _ (List.mem_of_getElem? (i := 92) rfl)
theorem w93 {a0 : Array Value} {Z : State} (hw : ∀ d ∈ tables_1, d.before a0 Z = true) : ((Jvm.Cond.initialized "java/lang/System") : Jvm.Cond).before a0 Z = true := hw _ (List.mem_of_getElem? (i := 93) rfl)
theorem w94 {a0 : Array Value} {Z : State} (hw : ∀ d ∈ tables_1, d.before a0 Z = true) : ((Jvm.Cond.native ({ cls := "java/lang/System", name := "arraycopy", desc := "(Ljava/lang/Object;ILjava/lang/Object;II)V" } : Jvm.MethodName)) : Jvm.Cond).before a0 Z = true := hw _ (List.mem_of_getElem? (i := 94) rfl)
theorem w95 {a0 : Array Value} {Z : State} (hw : ∀ d ∈ tables_1, d.before a0 Z = true) : ((Jvm.Cond.methodLink "com/example/rungway/rungway/framework/InstallException" (20 : Nat) ({ cls := "java/lang/StringBuilder", name := "toString", desc := "()Ljava/lang/String;" } : Jvm.MethodName)) : Jvm.Cond).before a0 Z = true := hw _ (List.mem_of_getElem? (i := 95) rfl)
theorem w96 {a0 : Array Value} {Z : State} (hw : ∀ d ∈ tables_1, d.before a0 Z = true) : ((Jvm.Cond.declares ({ cls := "java/lang/StringBuilder", name := "toString", desc := "()Ljava/lang/String;" } : Jvm.MethodName)) : Jvm.Cond).before a0 Z = true := hw _ (List.mem_of_getElem? (i := 96) rfl)
theorem w97 {a0 : Array Value} {Z : State} (hw : ∀ d ∈ tables_1, d.before a0 Z = true) : ((Jvm.Cond.instanceMethod ({ cls := "java/lang/StringBuilder", name := "toString", desc := "()Ljava/lang/String;" } : Jvm.MethodName)) : Jvm.Cond).before a0 Z = true := hw _ (List.mem_of_getElem? (i := 97) rfl)
theorem w98 {a0 : Array Value} {Z : State} (hw : ∀ d ∈ tables_1, d.before a0 Z = true) : ((Jvm.Cond.selects "java/lang/StringBuilder" ({ cls := "java/lang/StringBuilder", name := "toString", desc := "()Ljava/lang/String;" } : Jvm.MethodName) ({ cls := "java/lang/StringBuilder", name := "toString", desc := "()Ljava/lang/String;" } : Jvm.MethodName)) : Jvm.Cond).before a0 Z = true := hw _ (List.mem_of_getElem? (i := 98) rfl)
theorem w99 {a0 : Array Value} {Z : State} (hw : ∀ d ∈ tables_1, d.before a0 Z = true) : ((Jvm.Cond.code ({ cls := "java/lang/StringBuilder", name := "toString", desc := "()Ljava/lang/String;" } : Jvm.MethodName) jdk_67_method_42_code (1 : Nat) (Option.some (Jvm.ClassFile.FieldType.object "java/lang/String"))) : Jvm.Cond).before a0 Z = true := hw _ (List.mem_of_getElem? (i := 99) rfl)
theorem w100 {a0 : Array Value} {Z : State} (hw : ∀ d ∈ tables_1, d.before a0 Z = true) : ((Jvm.Cond.classLink "java/lang/StringBuilder" (18 : Nat) "java/lang/String") : Jvm.Cond).before a0 Z = true := hw _ (List.mem_of_getElem? (i := 100) rfl)
theorem w101 {a0 : Array Value} {Z : State} (hw : ∀ d ∈ tables_1, d.before a0 Z = true) : ((Jvm.Cond.methodLink "java/lang/StringBuilder" (137 : Nat) ({ cls := "java/lang/String", name := "<init>", desc := "(Ljava/lang/StringBuilder;)V" } : Jvm.MethodName)) : Jvm.Cond).before a0 Z = true := hw _ (List.mem_of_getElem? (i := 101) rfl)
theorem w102 {a0 : Array Value} {Z : State} (hw : ∀ d ∈ tables_1, d.before a0 Z = true) : ((Jvm.Cond.instanceMethod ({ cls := "java/lang/String", name := "<init>", desc := "(Ljava/lang/StringBuilder;)V" } : Jvm.MethodName)) : Jvm.Cond).before a0 Z = true := hw _ (List.mem_of_getElem? (i := 102) rfl)
theorem w103 {a0 : Array Value} {Z : State} (hw : ∀ d ∈ tables_1, d.before a0 Z = true) : ((Jvm.Cond.code ({ cls := "java/lang/String", name := "<init>", desc := "(Ljava/lang/StringBuilder;)V" } : Jvm.MethodName) jdk_42_method_53_code (2 : Nat) (Option.none : Option Jvm.ClassFile.FieldType)) : Jvm.Cond).before a0 Z = true := hw _ (List.mem_of_getElem? (i := 103) rfl)
theorem w104 {a0 : Array Value} {Z : State} (hw : ∀ d ∈ tables_1, d.before a0 Z = true) : ((Jvm.Cond.methodLink "java/lang/String" (489 : Nat) ({ cls := "java/lang/String", name := "<init>", desc := "(Ljava/lang/AbstractStringBuilder;Ljava/lang/Void;)V" } : Jvm.MethodName)) : Jvm.Cond).before a0 Z = true := hw _ (List.mem_of_getElem? (i := 104) rfl)
theorem w105 {a0 : Array Value} {Z : State} (hw : ∀ d ∈ tables_1, d.before a0 Z = true) : ((Jvm.Cond.instanceMethod ({ cls := "java/lang/String", name := "<init>", desc := "(Ljava/lang/AbstractStringBuilder;Ljava/lang/Void;)V" } : Jvm.MethodName)) : Jvm.Cond).before a0 Z = true := hw _ (List.mem_of_getElem? (i := 105) rfl)
theorem w106 {a0 : Array Value} {Z : State} (hw : ∀ d ∈ tables_1, d.before a0 Z = true) : ((Jvm.Cond.code ({ cls := "java/lang/String", name := "<init>", desc := "(Ljava/lang/AbstractStringBuilder;Ljava/lang/Void;)V" } : Jvm.MethodName) jdk_42_method_150_code (5 : Nat) (Option.none : Option Jvm.ClassFile.FieldType)) : Jvm.Cond).before a0 Z = true := hw _ (List.mem_of_getElem? (i := 106) rfl)
theorem w107 {a0 : Array Value} {Z : State} (hw : ∀ d ∈ tables_1, d.before a0 Z = true) : ((Jvm.Cond.methodLink "java/lang/String" (552 : Nat) ({ cls := "java/lang/AbstractStringBuilder", name := "getValue", desc := "()[B" } : Jvm.MethodName)) : Jvm.Cond).before a0 Z = true := hw _ (List.mem_of_getElem? (i := 107) rfl)
theorem w108 {a0 : Array Value} {Z : State} (hw : ∀ d ∈ tables_1, d.before a0 Z = true) : ((Jvm.Cond.declares ({ cls := "java/lang/AbstractStringBuilder", name := "getValue", desc := "()[B" } : Jvm.MethodName)) : Jvm.Cond).before a0 Z = true := hw _ (List.mem_of_getElem? (i := 108) rfl)
theorem w109 {a0 : Array Value} {Z : State} (hw : ∀ d ∈ tables_1, d.before a0 Z = true) : ((Jvm.Cond.instanceMethod ({ cls := "java/lang/AbstractStringBuilder", name := "getValue", desc := "()[B" } : Jvm.MethodName)) : Jvm.Cond).before a0 Z = true := hw _ (List.mem_of_getElem? (i := 109) rfl)
theorem w110 {a0 : Array Value} {Z : State} (hw : ∀ d ∈ tables_1, d.before a0 Z = true) : ((Jvm.Cond.selects "java/lang/StringBuilder" ({ cls := "java/lang/AbstractStringBuilder", name := "getValue", desc := "()[B" } : Jvm.MethodName) ({ cls := "java/lang/AbstractStringBuilder", name := "getValue", desc := "()[B" } : Jvm.MethodName)) : Jvm.Cond).before a0 Z = true := hw _ (List.mem_of_getElem? (i := 110) rfl)
theorem w111 {a0 : Array Value} {Z : State} (hw : ∀ d ∈ tables_1, d.before a0 Z = true) : ((Jvm.Cond.code ({ cls := "java/lang/AbstractStringBuilder", name := "getValue", desc := "()[B" } : Jvm.MethodName) jdk_68_method_64_code (1 : Nat) (Option.some (Jvm.ClassFile.FieldType.array Jvm.ClassFile.FieldType.byte))) : Jvm.Cond).before a0 Z = true := hw _ (List.mem_of_getElem? (i := 111) rfl)
theorem w112 {a0 : Array Value} {Z : State} (hw : ∀ d ∈ tables_1, d.before a0 Z = true) : ((Jvm.Cond.methodLink "java/lang/String" (549 : Nat) ({ cls := "java/lang/AbstractStringBuilder", name := "length", desc := "()I" } : Jvm.MethodName)) : Jvm.Cond).before a0 Z = true := hw _ (List.mem_of_getElem? (i := 112) rfl)
theorem w113 {a0 : Array Value} {Z : State} (hw : ∀ d ∈ tables_1, d.before a0 Z = true) : ((Jvm.Cond.declares ({ cls := "java/lang/AbstractStringBuilder", name := "length", desc := "()I" } : Jvm.MethodName)) : Jvm.Cond).before a0 Z = true := hw _ (List.mem_of_getElem? (i := 113) rfl)
theorem w114 {a0 : Array Value} {Z : State} (hw : ∀ d ∈ tables_1, d.before a0 Z = true) : ((Jvm.Cond.instanceMethod ({ cls := "java/lang/AbstractStringBuilder", name := "length", desc := "()I" } : Jvm.MethodName)) : Jvm.Cond).before a0 Z = true := hw _ (List.mem_of_getElem? (i := 114) rfl)
theorem w115 {a0 : Array Value} {Z : State} (hw : ∀ d ∈ tables_1, d.before a0 Z = true) : ((Jvm.Cond.selects "java/lang/StringBuilder" ({ cls := "java/lang/AbstractStringBuilder", name := "length", desc := "()I" } : Jvm.MethodName) ({ cls := "java/lang/StringBuilder", name := "length", desc := "()I" } : Jvm.MethodName)) : Jvm.Cond).before a0 Z = true := hw _ (List.mem_of_getElem? (i := 115) rfl)
theorem w116 {a0 : Array Value} {Z : State} (hw : ∀ d ∈ tables_1, d.before a0 Z = true) : ((Jvm.Cond.instanceMethod ({ cls := "java/lang/StringBuilder", name := "length", desc := "()I" } : Jvm.MethodName)) : Jvm.Cond).before a0 Z = true := hw _ (List.mem_of_getElem? (i := 116) rfl)
theorem w117 {a0 : Array Value} {Z : State} (hw : ∀ d ∈ tables_1, d.before a0 Z = true) : ((Jvm.Cond.code ({ cls := "java/lang/StringBuilder", name := "length", desc := "()I" } : Jvm.MethodName) jdk_67_method_93_code (1 : Nat) (Option.some Jvm.ClassFile.FieldType.int)) : Jvm.Cond).before a0 Z = true := hw _ (List.mem_of_getElem? (i := 117) rfl)
theorem w118 {a0 : Array Value} {Z : State} (hw : ∀ d ∈ tables_1, d.before a0 Z = true) : ((Jvm.Cond.methodLink "java/lang/StringBuilder" (343 : Nat) ({ cls := "java/lang/AbstractStringBuilder", name := "length", desc := "()I" } : Jvm.MethodName)) : Jvm.Cond).before a0 Z = true := hw _ (List.mem_of_getElem? (i := 118) rfl)
theorem w119 {a0 : Array Value} {Z : State} (hw : ∀ d ∈ tables_1, d.before a0 Z = true) : ((Jvm.Cond.code ({ cls := "java/lang/AbstractStringBuilder", name := "length", desc := "()I" } : Jvm.MethodName) jdk_68_method_6_code (1 : Nat) (Option.some Jvm.ClassFile.FieldType.int)) : Jvm.Cond).before a0 Z = true := hw _ (List.mem_of_getElem? (i := 119) rfl)
theorem w120 {a0 : Array Value} {Z : State} (hw : ∀ d ∈ tables_1, d.before a0 Z = true) : ((Jvm.Cond.methodLink "java/lang/String" (1047 : Nat) ({ cls := "java/lang/AbstractStringBuilder", name := "isLatin1", desc := "()Z" } : Jvm.MethodName)) : Jvm.Cond).before a0 Z = true := hw _ (List.mem_of_getElem? (i := 120) rfl)
theorem w121 {a0 : Array Value} {Z : State} (hw : ∀ d ∈ tables_1, d.before a0 Z = true) : ((Jvm.Cond.declares ({ cls := "java/lang/AbstractStringBuilder", name := "isLatin1", desc := "()Z" } : Jvm.MethodName)) : Jvm.Cond).before a0 Z = true := hw _ (List.mem_of_getElem? (i := 121) rfl)
theorem w122 {a0 : Array Value} {Z : State} (hw : ∀ d ∈ tables_1, d.before a0 Z = true) : ((Jvm.Cond.instanceMethod ({ cls := "java/lang/AbstractStringBuilder", name := "isLatin1", desc := "()Z" } : Jvm.MethodName)) : Jvm.Cond).before a0 Z = true := hw _ (List.mem_of_getElem? (i := 122) rfl)
theorem w123 {a0 : Array Value} {Z : State} (hw : ∀ d ∈ tables_1, d.before a0 Z = true) : ((Jvm.Cond.selects "java/lang/StringBuilder" ({ cls := "java/lang/AbstractStringBuilder", name := "isLatin1", desc := "()Z" } : Jvm.MethodName) ({ cls := "java/lang/AbstractStringBuilder", name := "isLatin1", desc := "()Z" } : Jvm.MethodName)) : Jvm.Cond).before a0 Z = true := hw _ (List.mem_of_getElem? (i := 123) rfl)
theorem w124 {a0 : Array Value} {Z : State} (hw : ∀ d ∈ tables_1, d.before a0 Z = true) : ((Jvm.Cond.code ({ cls := "java/lang/AbstractStringBuilder", name := "isLatin1", desc := "()Z" } : Jvm.MethodName) jdk_68_method_68_code (1 : Nat) (Option.some Jvm.ClassFile.FieldType.boolean)) : Jvm.Cond).before a0 Z = true := hw _ (List.mem_of_getElem? (i := 124) rfl)
theorem w125 {a0 : Array Value} {Z : State} (hw : ∀ d ∈ tables_1, d.before a0 Z = true) : ((Jvm.Cond.methodLink "java/lang/String" (54 : Nat) ({ cls := "java/util/Arrays", name := "copyOfRange", desc := "([BII)[B" } : Jvm.MethodName)) : Jvm.Cond).before a0 Z = true := hw _ (List.mem_of_getElem? (i := 125) rfl)
theorem w126 {a0 : Array Value} {Z : State} (hw : ∀ d ∈ tables_1, d.before a0 Z = true) : ((Jvm.Cond.static ({ cls := "java/util/Arrays", name := "copyOfRange", desc := "([BII)[B" } : Jvm.MethodName)) : Jvm.Cond).before a0 Z = true := hw _ (List.mem_of_getElem? (i := 126) rfl)
theorem w127 {a0 : Array Value} {Z : State} (hw : ∀ d ∈ tables_1, d.before a0 Z = true) : ((Jvm.Cond.initialized "java/util/Arrays") : Jvm.Cond).before a0 Z = true := hw _ (List.mem_of_getElem? (i := 127) rfl)
theorem w128 {a0 : Array Value} {Z : State} (hw : ∀ d ∈ tables_1, d.before a0 Z = true) : ((Jvm.Cond.code ({ cls := "java/util/Arrays", name := "copyOfRange", desc := "([BII)[B" } : Jvm.MethodName) jdk_65_method_132_code (3 : Nat) (Option.some (Jvm.ClassFile.FieldType.array Jvm.ClassFile.FieldType.byte))) : Jvm.Cond).before a0 Z = true := hw _ (List.mem_of_getElem? (i := 128) rfl)
theorem w129 {a0 : Array Value} {Z : State} (hw : ∀ d ∈ tables_1, d.before a0 Z = true) : ((Jvm.Cond.methodLink "java/util/Arrays" (339 : Nat) ({ cls := "java/util/Arrays", name := "copyOfRangeByte", desc := "([BII)[B" } : Jvm.MethodName)) : Jvm.Cond).before a0 Z = true := hw _ (List.mem_of_getElem? (i := 129) rfl)
theorem w130 {a0 : Array Value} {Z : State} (hw : ∀ d ∈ tables_1, d.before a0 Z = true) : ((Jvm.Cond.static ({ cls := "java/util/Arrays", name := "copyOfRangeByte", desc := "([BII)[B" } : Jvm.MethodName)) : Jvm.Cond).before a0 Z = true := hw _ (List.mem_of_getElem? (i := 130) rfl)
theorem w131 {a0 : Array Value} {Z : State} (hw : ∀ d ∈ tables_1, d.before a0 Z = true) : ((Jvm.Cond.code ({ cls := "java/util/Arrays", name := "copyOfRangeByte", desc := "([BII)[B" } : Jvm.MethodName) jdk_65_method_133_code (5 : Nat) (Option.some (Jvm.ClassFile.FieldType.array Jvm.ClassFile.FieldType.byte))) : Jvm.Cond).before a0 Z = true := hw _ (List.mem_of_getElem? (i := 131) rfl)
theorem w132 {a0 : Array Value} {Z : State} (hw : ∀ d ∈ tables_1, d.before a0 Z = true) : ((Jvm.Cond.methodLink "java/util/Arrays" (343 : Nat) ({ cls := "java/util/Arrays", name := "checkLength", desc := "(II)V" } : Jvm.MethodName)) : Jvm.Cond).before a0 Z = true := hw _ (List.mem_of_getElem? (i := 132) rfl)
theorem w133 {a0 : Array Value} {Z : State} (hw : ∀ d ∈ tables_1, d.before a0 Z = true) : ((Jvm.Cond.static ({ cls := "java/util/Arrays", name := "checkLength", desc := "(II)V" } : Jvm.MethodName)) : Jvm.Cond).before a0 Z = true := hw _ (List.mem_of_getElem? (i := 133) rfl)
theorem w134 {a0 : Array Value} {Z : State} (hw : ∀ d ∈ tables_1, d.before a0 Z = true) : ((Jvm.Cond.code ({ cls := "java/util/Arrays", name := "checkLength", desc := "(II)V" } : Jvm.MethodName) jdk_65_method_131_code (2 : Nat) (Option.none : Option Jvm.ClassFile.FieldType)) : Jvm.Cond).before a0 Z = true := hw _ (List.mem_of_getElem? (i := 134) rfl)
theorem w135 {a0 : Array Value} {Z : State} (hw : ∀ d ∈ tables_1, d.before a0 Z = true) : ((Jvm.Cond.methodLink "java/util/Arrays" (304 : Nat) ({ cls := "java/lang/Math", name := "min", desc := "(II)I" } : Jvm.MethodName)) : Jvm.Cond).before a0 Z = true := hw _ (List.mem_of_getElem? (i := 135) rfl)
theorem w136 {a0 : Array Value} {Z : State} (hw : ∀ d ∈ tables_1, d.before a0 Z = true) : ((Jvm.Cond.static ({ cls := "java/lang/Math", name := "min", desc := "(II)I" } : Jvm.MethodName)) : Jvm.Cond).before a0 Z = true := hw _ (List.mem_of_getElem? (i := 136) rfl)
theorem w137 {a0 : Array Value} {Z : State} (hw : ∀ d ∈ tables_1, d.before a0 Z = true) : ((Jvm.Cond.initialized "java/lang/Math") : Jvm.Cond).before a0 Z = true := hw _ (List.mem_of_getElem? (i := 137) rfl)
theorem w138 {a0 : Array Value} {Z : State} (hw : ∀ d ∈ tables_1, d.before a0 Z = true) : ((Jvm.Cond.code ({ cls := "java/lang/Math", name := "min", desc := "(II)I" } : Jvm.MethodName) jdk_29_method_69_code (2 : Nat) (Option.some Jvm.ClassFile.FieldType.int)) : Jvm.Cond).before a0 Z = true := hw _ (List.mem_of_getElem? (i := 138) rfl)
theorem w139 {a0 : Array Value} {Z : State} (hw : ∀ d ∈ tables_1, d.before a0 Z = true) : ((Jvm.Cond.methodLink "java/util/Arrays" (150 : Nat) ({ cls := "java/lang/System", name := "arraycopy", desc := "(Ljava/lang/Object;ILjava/lang/Object;II)V" } : Jvm.MethodName)) : Jvm.Cond).before a0 Z = true := hw _ (List.mem_of_getElem? (i := 139) rfl)
theorem w140 {a0 : Array Value} {Z : State} (hw : ∀ d ∈ tables_1, d.before a0 Z = true) : ((Jvm.Cond.methodLink "com/example/rungway/rungway/framework/InstallException" (24 : Nat) ({ cls := "com/example/rungway/rungway/framework/InstallException", name := "<init>", desc := "(Ljava/lang/String;)V" } : Jvm.MethodName)) : Jvm.Cond).before a0 Z = true := hw _ (List.mem_of_getElem? (i := 140) rfl)
theorem w141 {a0 : Array Value} {Z : State} (hw : ∀ d ∈ tables_1, d.before a0 Z = true) : ((Jvm.Cond.instanceMethod ({ cls := "com/example/rungway/rungway/framework/InstallException", name := "<init>", desc := "(Ljava/lang/String;)V" } : Jvm.MethodName)) : Jvm.Cond).before a0 Z = true := hw _ (List.mem_of_getElem? (i := 141) rfl)
theorem w142 {a0 : Array Value} {Z : State} (hw : ∀ d ∈ tables_1, d.before a0 Z = true) : ((Jvm.Cond.code ({ cls := "com/example/rungway/rungway/framework/InstallException", name := "<init>", desc := "(Ljava/lang/String;)V" } : Jvm.MethodName) prog_8_method_1_code (2 : Nat) (Option.none : Option Jvm.ClassFile.FieldType)) : Jvm.Cond).before a0 Z = true := hw _ (List.mem_of_getElem? (i := 142) rfl)
theorem w143 {a0 : Array Value} {Z : State} (hw : ∀ d ∈ tables_1, d.before a0 Z = true) : ((Jvm.Cond.methodLink "com/example/rungway/rungway/framework/InstallException" (1 : Nat) ({ cls := "java/lang/Exception", name := "<init>", desc := "(Ljava/lang/String;)V" } : Jvm.MethodName)) : Jvm.Cond).before a0 Z = true := hw _ (List.mem_of_getElem? (i := 143) rfl)
theorem w144 {a0 : Array Value} {Z : State} (hw : ∀ d ∈ tables_1, d.before a0 Z = true) : ((Jvm.Cond.instanceMethod ({ cls := "java/lang/Exception", name := "<init>", desc := "(Ljava/lang/String;)V" } : Jvm.MethodName)) : Jvm.Cond).before a0 Z = true := hw _ (List.mem_of_getElem? (i := 144) rfl)
theorem w146 {a0 : Array Value} {Z : State} (hw : ∀ d ∈ tables_1, d.before a0 Z = true) : ((Jvm.Cond.initialized "java/lang/Exception") : Jvm.Cond).before a0 Z = true := hw _ (List.mem_of_getElem? (i := 146) rfl)
theorem w147 {a0 : Array Value} {Z : State} (hw : ∀ d ∈ tables_1, d.before a0 Z = true) : ((Jvm.Cond.code ({ cls := "java/lang/Exception", name := "<init>", desc := "(Ljava/lang/String;)V" } : Jvm.MethodName) jdk_59_method_2_code (2 : Nat) (Option.none : Option Jvm.ClassFile.FieldType)) : Jvm.Cond).before a0 Z = true := hw _ (List.mem_of_getElem? (i := 147) rfl)
theorem w148 {a0 : Array Value} {Z : State} (hw : ∀ d ∈ tables_1, d.before a0 Z = true) : ((Jvm.Cond.methodLink "java/lang/Exception" (7 : Nat) ({ cls := "java/lang/Throwable", name := "<init>", desc := "(Ljava/lang/String;)V" } : Jvm.MethodName)) : Jvm.Cond).before a0 Z = true := hw _ (List.mem_of_getElem? (i := 148) rfl)
theorem w149 {a0 : Array Value} {Z : State} (hw : ∀ d ∈ tables_1, d.before a0 Z = true) : ((Jvm.Cond.instanceMethod ({ cls := "java/lang/Throwable", name := "<init>", desc := "(Ljava/lang/String;)V" } : Jvm.MethodName)) : Jvm.Cond).before a0 Z = true := hw _ (List.mem_of_getElem? (i := 149) rfl)
theorem w152 {a0 : Array Value} {Z : State} (hw : ∀ d ∈ tables_1, d.before a0 Z = true) : ((Jvm.Cond.initialized "java/lang/Throwable") : Jvm.Cond).before a0 Z = true := hw _ (List.mem_of_getElem? (i := 152) rfl)
theorem w153 {a0 : Array Value} {Z : State} (hw : ∀ d ∈ tables_1, d.before a0 Z = true) : ((Jvm.Cond.code ({ cls := "java/lang/Throwable", name := "<init>", desc := "(Ljava/lang/String;)V" } : Jvm.MethodName) jdk_78_method_2_code (2 : Nat) (Option.none : Option Jvm.ClassFile.FieldType)) : Jvm.Cond).before a0 Z = true := hw _ (List.mem_of_getElem? (i := 153) rfl)
theorem w154 {a0 : Array Value} {Z : State} (hw : ∀ d ∈ tables_1, d.before a0 Z = true) : ((Jvm.Cond.methodLink "java/lang/Throwable" (1 : Nat) ({ cls := "java/lang/Object", name := "<init>", desc := "()V" } : Jvm.MethodName)) : Jvm.Cond).before a0 Z = true := hw _ (List.mem_of_getElem? (i := 154) rfl)
theorem w155 {a0 : Array Value} {Z : State} (hw : ∀ d ∈ tables_1, d.before a0 Z = true) : ((Jvm.Cond.fieldLink "java/lang/Throwable" (7 : Nat) "java/lang/Throwable" "cause" "Ljava/lang/Throwable;") : Jvm.Cond).before a0 Z = true := hw _ (List.mem_of_getElem? (i := 155) rfl)
theorem w156 {a0 : Array Value} {Z : State} (hw : ∀ d ∈ tables_1, d.before a0 Z = true) : ((Jvm.Cond.lays "com/example/rungway/rungway/framework/InstallException" "java/lang/Throwable" "cause" "Ljava/lang/Throwable;") : Jvm.Cond).before a0 Z = true := hw _ (List.mem_of_getElem? (i := 156) rfl)
theorem w157 {a0 : Array Value} {Z : State} (hw : ∀ d ∈ tables_1, d.before a0 Z = true) : ((Jvm.Cond.fieldLink "java/lang/Throwable" (13 : Nat) "java/lang/Throwable" "UNASSIGNED_STACK" "[Ljava/lang/StackTraceElement;") : Jvm.Cond).before a0 Z = true := hw _ (List.mem_of_getElem? (i := 157) rfl)
theorem w158 {a0 : Array Value} {Z : State} (hw : ∀ d ∈ tables_1, d.before a0 Z = true) : ((Jvm.Cond.fieldLink "java/lang/Throwable" (17 : Nat) "java/lang/Throwable" "stackTrace" "[Ljava/lang/StackTraceElement;") : Jvm.Cond).before a0 Z = true := hw _ (List.mem_of_getElem? (i := 158) rfl)
theorem w159 {a0 : Array Value} {Z : State} (hw : ∀ d ∈ tables_1, d.before a0 Z = true) : ((Jvm.Cond.lays "com/example/rungway/rungway/framework/InstallException" "java/lang/Throwable" "stackTrace" "[Ljava/lang/StackTraceElement;") : Jvm.Cond).before a0 Z = true := hw _ (List.mem_of_getElem? (i := 159) rfl)
theorem w160 {a0 : Array Value} {Z : State} (hw : ∀ d ∈ tables_1, d.before a0 Z = true) : ((Jvm.Cond.fieldLink "java/lang/Throwable" (20 : Nat) "java/lang/Throwable" "SUPPRESSED_SENTINEL" "Ljava/util/List;") : Jvm.Cond).before a0 Z = true := hw _ (List.mem_of_getElem? (i := 160) rfl)
theorem w161 {a0 : Array Value} {Z : State} (hw : ∀ d ∈ tables_1, d.before a0 Z = true) : ((Jvm.Cond.fieldLink "java/lang/Throwable" (24 : Nat) "java/lang/Throwable" "suppressedExceptions" "Ljava/util/List;") : Jvm.Cond).before a0 Z = true := hw _ (List.mem_of_getElem? (i := 161) rfl)
theorem w162 {a0 : Array Value} {Z : State} (hw : ∀ d ∈ tables_1, d.before a0 Z = true) : ((Jvm.Cond.lays "com/example/rungway/rungway/framework/InstallException" "java/lang/Throwable" "suppressedExceptions" "Ljava/util/List;") : Jvm.Cond).before a0 Z = true := hw _ (List.mem_of_getElem? (i := 162) rfl)
theorem w163 {a0 : Array Value} {Z : State} (hw : ∀ d ∈ tables_1, d.before a0 Z = true) : ((Jvm.Cond.methodLink "java/lang/Throwable" (27 : Nat) ({ cls := "java/lang/Throwable", name := "fillInStackTrace", desc := "()Ljava/lang/Throwable;" } : Jvm.MethodName)) : Jvm.Cond).before a0 Z = true := hw _ (List.mem_of_getElem? (i := 163) rfl)
theorem w164 {a0 : Array Value} {Z : State} (hw : ∀ d ∈ tables_1, d.before a0 Z = true) : ((Jvm.Cond.declares ({ cls := "java/lang/Throwable", name := "fillInStackTrace", desc := "()Ljava/lang/Throwable;" } : Jvm.MethodName)) : Jvm.Cond).before a0 Z = true := hw _ (List.mem_of_getElem? (i := 164) rfl)
theorem w165 {a0 : Array Value} {Z : State} (hw : ∀ d ∈ tables_1, d.before a0 Z = true) : ((Jvm.Cond.instanceMethod ({ cls := "java/lang/Throwable", name := "fillInStackTrace", desc := "()Ljava/lang/Throwable;" } : Jvm.MethodName)) : Jvm.Cond).before a0 Z = true := hw _ (List.mem_of_getElem? (i := 165) rfl)
theorem w166 {a0 : Array Value} {Z : State} (hw : ∀ d ∈ tables_1, d.before a0 Z = true) : ((Jvm.Cond.selects "com/example/rungway/rungway/framework/InstallException" ({ cls := "java/lang/Throwable", name := "fillInStackTrace", desc := "()Ljava/lang/Throwable;" } : Jvm.MethodName) ({ cls := "java/lang/Throwable", name := "fillInStackTrace", desc := "()Ljava/lang/Throwable;" } : Jvm.MethodName)) : Jvm.Cond).before a0 Z = true := hw _ (List.mem_of_getElem? (i := 166) rfl)
theorem w167 {a0 : Array Value} {Z : State} (hw : ∀ d ∈ tables_1, d.before a0 Z = true) : ((Jvm.Cond.arrayOver (Jvm.ClassFile.FieldType.object "java/lang/Object")) : Jvm.Cond).before a0 Z = true := hw _ (List.mem_of_getElem? (i := 167) rfl)
theorem w168 {a0 : Array Value} {Z : State} (hw : ∀ d ∈ tables_1, d.before a0 Z = true) : ((Jvm.Cond.soleField "java/lang/Throwable" "backtrace") : Jvm.Cond).before a0 Z = true := hw _ (List.mem_of_getElem? (i := 168) rfl)
theorem w169 {a0 : Array Value} {Z : State} (hw : ∀ d ∈ tables_1, d.before a0 Z = true) : ((Jvm.Cond.soleField "java/lang/Throwable" "depth") : Jvm.Cond).before a0 Z = true := hw _ (List.mem_of_getElem? (i := 169) rfl)
theorem w170 {a0 : Array Value} {Z : State} (hw : ∀ d ∈ tables_1, d.before a0 Z = true) : ((Jvm.Cond.superclass "java/lang/Throwable" "java/lang/Object") : Jvm.Cond).before a0 Z = true := hw _ (List.mem_of_getElem? (i := 170) rfl)
theorem w171 {a0 : Array Value} {Z : State} (hw : ∀ d ∈ tables_1, d.before a0 Z = true) : ((Jvm.Cond.codeSync ({ cls := "java/lang/Throwable", name := "fillInStackTrace", desc := "()Ljava/lang/Throwable;" } : Jvm.MethodName) jdk_78_method_18_code (1 : Nat) (Option.some (Jvm.ClassFile.FieldType.object "java/lang/Throwable"))) : Jvm.Cond).before a0 Z = true := hw _ (List.mem_of_getElem? (i := 171) rfl)
theorem w172 {a0 : Array Value} {Z : State} (hw : ∀ d ∈ tables_1, d.before a0 Z = true) : ((Jvm.Cond.instanceMethod ({ cls := "java/lang/Throwable", name := "fillInStackTrace", desc := "(I)Ljava/lang/Throwable;" } : Jvm.MethodName)) : Jvm.Cond).before a0 Z = true := hw _ (List.mem_of_getElem? (i := 172) rfl)
theorem w173 {a0 : Array Value} {Z : State} (hw : ∀ d ∈ tables_1, d.before a0 Z = true) : ((Jvm.Cond.native ({ cls := "java/lang/Throwable", name := "fillInStackTrace", desc := "(I)Ljava/lang/Throwable;" } : Jvm.MethodName)) : Jvm.Cond).before a0 Z = true := hw _ (List.mem_of_getElem? (i := 173) rfl)
theorem w174 {a0 : Array Value} {Z : State} (hw : ∀ d ∈ tables_1, d.before a0 Z = true) : ((Jvm.Cond.instanceMethod ({ cls := "java/lang/Throwable", name := "<init>", desc := "()V" } : Jvm.MethodName)) : Jvm.Cond).before a0 Z = true := hw _ (List.mem_of_getElem? (i := 174) rfl)
theorem w175 {a0 : Array Value} {Z : State} (hw : ∀ d ∈ tables_1, d.before a0 Z = true) : ((Jvm.Cond.code ({ cls := "java/lang/Throwable", name := "<init>", desc := "()V" } : Jvm.MethodName) jdk_78_method_1_code (1 : Nat) (Option.none : Option Jvm.ClassFile.FieldType)) : Jvm.Cond).before a0 Z = true := hw _ (List.mem_of_getElem? (i := 175) rfl)
theorem w176 {a0 : Array Value} {Z : State} (hw : ∀ d ∈ tables_1, d.before a0 Z = true) : ((Jvm.Cond.methodLink "java/lang/Throwable" (202 : Nat) ({ cls := "java/lang/Throwable", name := "fillInStackTrace", desc := "(I)Ljava/lang/Throwable;" } : Jvm.MethodName)) : Jvm.Cond).before a0 Z = true := hw _ (List.mem_of_getElem? (i := 176) rfl)
theorem w177 {a0 : Array Value} {Z : State} (hw : ∀ d ∈ tables_1, d.before a0 Z = true) : ((Jvm.Cond.lays "java/lang/Throwable" "java/lang/Throwable" "cause" "Ljava/lang/Throwable;") : Jvm.Cond).before a0 Z = true := hw _ (List.mem_of_getElem? (i := 177) rfl)
theorem w178 {a0 : Array Value} {Z : State} (hw : ∀ d ∈ tables_1, d.before a0 Z = true) : ((Jvm.Cond.lays "java/lang/Throwable" "java/lang/Throwable" "stackTrace" "[Ljava/lang/StackTraceElement;") : Jvm.Cond).before a0 Z = true := hw _ (List.mem_of_getElem? (i := 178) rfl)
theorem w179 {a0 : Array Value} {Z : State} (hw : ∀ d ∈ tables_1, d.before a0 Z = true) : ((Jvm.Cond.lays "java/lang/Throwable" "java/lang/Throwable" "detailMessage" "Ljava/lang/String;") : Jvm.Cond).before a0 Z = true := hw _ (List.mem_of_getElem? (i := 179) rfl)
theorem w181 {a0 : Array Value} {Z : State} (hw : ∀ d ∈ tables_1, d.before a0 Z = true) : ((Jvm.Cond.fieldLink "java/lang/Throwable" (198 : Nat) "java/lang/Throwable" "backtrace" "Ljava/lang/Object;") : Jvm.Cond).before a0 Z = true := hw _ (List.mem_of_getElem? (i := 181) rfl)
theorem w182 {a0 : Array Value} {Z : State} (hw : ∀ d ∈ tables_1, d.before a0 Z = true) : ((Jvm.Cond.lays "java/lang/Throwable" "java/lang/Throwable" "backtrace" "Ljava/lang/Object;") : Jvm.Cond).before a0 Z = true := hw _ (List.mem_of_getElem? (i := 182) rfl)
theorem w183 {a0 : Array Value} {Z : State} (hw : ∀ d ∈ tables_1, d.before a0 Z = true) : ((Jvm.Cond.laysStatic "java/lang/Throwable" "UNASSIGNED_STACK" "[Ljava/lang/StackTraceElement;") : Jvm.Cond).before a0 Z = true := hw _ (List.mem_of_getElem? (i := 183) rfl)
theorem w184 {a0 : Array Value} {Z : State} (hw : ∀ d ∈ tables_1, d.before a0 Z = true) : ((Jvm.Cond.laysStatic "java/lang/Throwable" "SUPPRESSED_SENTINEL" "Ljava/util/List;") : Jvm.Cond).before a0 Z = true := hw _ (List.mem_of_getElem? (i := 184) rfl)
theorem w185 {a0 : Array Value} {Z : State} (hw : ∀ d ∈ tables_1, d.before a0 Z = true) : ((Jvm.Cond.selects "com/example/rungway/rungway/framework/InstallException" ({ cls := "java/lang/Throwable", name := "fillInStackTrace", desc := "(I)Ljava/lang/Throwable;" } : Jvm.MethodName) ({ cls := "java/lang/Throwable", name := "fillInStackTrace", desc := "(I)Ljava/lang/Throwable;" } : Jvm.MethodName)) : Jvm.Cond).before a0 Z = true := hw _ (List.mem_of_getElem? (i := 185) rfl)
theorem w186 {a0 : Array Value} {Z : State} (hw : ∀ d ∈ tables_1, d.before a0 Z = true) : ((Jvm.Cond.lays "com/example/rungway/rungway/framework/InstallException" "java/lang/Throwable" "detailMessage" "Ljava/lang/String;") : Jvm.Cond).before a0 Z = true := hw _ (List.mem_of_getElem? (i := 186) rfl)
theorem w187 {a0 : Array Value} {Z : State} (hw : ∀ d ∈ tables_1, d.before a0 Z = true) : ((Jvm.Cond.lays "com/example/rungway/rungway/framework/InstallException" "java/lang/Throwable" "backtrace" "Ljava/lang/Object;") : Jvm.Cond).before a0 Z = true := hw _ (List.mem_of_getElem? (i := 187) rfl)
theorem w188 {a0 : Array Value} {Z : State} (hw : ∀ d ∈ tables_1, d.before a0 Z = true) : ((Jvm.Cond.lays "com/example/rungway/rungway/framework/InstallException" "java/lang/Throwable" "depth" "I") : Jvm.Cond).before a0 Z = true := hw _ (List.mem_of_getElem? (i := 188) rfl)
theorem w190 {a0 : Array Value} {Z : State} (hw : ∀ d ∈ tables_1, d.before a0 Z = true) : ((Jvm.Cond.fieldLink "java/lang/Throwable" (31 : Nat) "java/lang/Throwable" "detailMessage" "Ljava/lang/String;") : Jvm.Cond).before a0 Z = true := hw _ (List.mem_of_getElem? (i := 190) rfl)
theorem w191 {a0 : Array Value} {Z : State} (hw : ∀ d ∈ tables_1, d.before a0 Z = true) : ((Jvm.Cond.methodLink "com/example/rungway/rungway/framework/InstallExceptionInvalidHeaderPinLaw" (22 : Nat) ({ cls := "com/example/rungway/rungway/framework/InstallException", name := "getMessage", desc := "()Ljava/lang/String;" } : Jvm.MethodName)) : Jvm.Cond).before a0 Z = true := hw _ (List.mem_of_getElem? (i := 191) rfl)
theorem w192 {a0 : Array Value} {Z : State} (hw : ∀ d ∈ tables_1, d.before a0 Z = true) : ((Jvm.Cond.sameMethod "com/example/rungway/rungway/framework/InstallException" "java/lang/Throwable" "getMessage" "()Ljava/lang/String;") : Jvm.Cond).before a0 Z = true := hw _ (List.mem_of_getElem? (i := 192) rfl)
theorem w193 {a0 : Array Value} {Z : State} (hw : ∀ d ∈ tables_1, d.before a0 Z = true) : ((Jvm.Cond.declares ({ cls := "java/lang/Throwable", name := "getMessage", desc := "()Ljava/lang/String;" } : Jvm.MethodName)) : Jvm.Cond).before a0 Z = true := hw _ (List.mem_of_getElem? (i := 193) rfl)
theorem w194 {a0 : Array Value} {Z : State} (hw : ∀ d ∈ tables_1, d.before a0 Z = true) : ((Jvm.Cond.instanceMethod ({ cls := "java/lang/Throwable", name := "getMessage", desc := "()Ljava/lang/String;" } : Jvm.MethodName)) : Jvm.Cond).before a0 Z = true := hw _ (List.mem_of_getElem? (i := 194) rfl)
theorem w195 {a0 : Array Value} {Z : State} (hw : ∀ d ∈ tables_1, d.before a0 Z = true) : ((Jvm.Cond.selects "com/example/rungway/rungway/framework/InstallException" ({ cls := "com/example/rungway/rungway/framework/InstallException", name := "getMessage", desc := "()Ljava/lang/String;" } : Jvm.MethodName) ({ cls := "java/lang/Throwable", name := "getMessage", desc := "()Ljava/lang/String;" } : Jvm.MethodName)) : Jvm.Cond).before a0 Z = true := hw _ (List.mem_of_getElem? (i := 195) rfl)
theorem w196 {a0 : Array Value} {Z : State} (hw : ∀ d ∈ tables_1, d.before a0 Z = true) : ((Jvm.Cond.code ({ cls := "java/lang/Throwable", name := "getMessage", desc := "()Ljava/lang/String;" } : Jvm.MethodName) jdk_78_method_6_code (1 : Nat) (Option.some (Jvm.ClassFile.FieldType.object "java/lang/String"))) : Jvm.Cond).before a0 Z = true := hw _ (List.mem_of_getElem? (i := 196) rfl)
theorem w197 {a0 : Array Value} {Z : State} (hw : ∀ d ∈ tables_1, d.before a0 Z = true) : ((Jvm.Cond.methodLink "com/example/rungway/rungway/framework/InstallExceptionInvalidHeaderPinLaw" (26 : Nat) ({ cls := "java/lang/String", name := "length", desc := "()I" } : Jvm.MethodName)) : Jvm.Cond).before a0 Z = true := hw _ (List.mem_of_getElem? (i := 197) rfl)
theorem w198 {a0 : Array Value} {Z : State} (hw : ∀ d ∈ tables_1, d.before a0 Z = true) : ((Jvm.Cond.methodLink "com/example/rungway/rungway/framework/InstallExceptionInvalidHeaderPinLaw" (30 : Nat) ({ cls := "com/example/rungway/rungway/framework/InstallExceptionInvalidHeaderPinLaw", name := "prefixOk", desc := "(Ljava/lang/String;)Z" } : Jvm.MethodName)) : Jvm.Cond).before a0 Z = true := hw _ (List.mem_of_getElem? (i := 198) rfl)
theorem w199 {a0 : Array Value} {Z : State} (hw : ∀ d ∈ tables_1, d.before a0 Z = true) : ((Jvm.Cond.static ({ cls := "com/example/rungway/rungway/framework/InstallExceptionInvalidHeaderPinLaw", name := "prefixOk", desc := "(Ljava/lang/String;)Z" } : Jvm.MethodName)) : Jvm.Cond).before a0 Z = true := hw _ (List.mem_of_getElem? (i := 199) rfl)
theorem w200 {a0 : Array Value} {Z : State} (hw : ∀ d ∈ tables_1, d.before a0 Z = true) : ((Jvm.Cond.initialized "com/example/rungway/rungway/framework/InstallExceptionInvalidHeaderPinLaw") : Jvm.Cond).before a0 Z = true := hw _ (List.mem_of_getElem? (i := 200) rfl)
theorem w201 {a0 : Array Value} {Z : State} (hw : ∀ d ∈ tables_1, d.before a0 Z = true) : ((Jvm.Cond.code ({ cls := "com/example/rungway/rungway/framework/InstallExceptionInvalidHeaderPinLaw", name := "prefixOk", desc := "(Ljava/lang/String;)Z" } : Jvm.MethodName) method_3_code (1 : Nat) (Option.some Jvm.ClassFile.FieldType.boolean)) : Jvm.Cond).before a0 Z = true := hw _ (List.mem_of_getElem? (i := 201) rfl)
theorem w202 {a0 : Array Value} {Z : State} (hw : ∀ d ∈ tables_1, d.before a0 Z = true) : ((Jvm.Cond.methodLink "com/example/rungway/rungway/framework/InstallExceptionInvalidHeaderPinLaw" (36 : Nat) ({ cls := "java/lang/String", name := "charAt", desc := "(I)C" } : Jvm.MethodName)) : Jvm.Cond).before a0 Z = true := hw _ (List.mem_of_getElem? (i := 202) rfl)
theorem w203 {a0 : Array Value} {Z : State} (hw : ∀ d ∈ tables_1, d.before a0 Z = true) : ((Jvm.Cond.declares ({ cls := "java/lang/String", name := "charAt", desc := "(I)C" } : Jvm.MethodName)) : Jvm.Cond).before a0 Z = true := hw _ (List.mem_of_getElem? (i := 203) rfl)
theorem w204 {a0 : Array Value} {Z : State} (hw : ∀ d ∈ tables_1, d.before a0 Z = true) : ((Jvm.Cond.instanceMethod ({ cls := "java/lang/String", name := "charAt", desc := "(I)C" } : Jvm.MethodName)) : Jvm.Cond).before a0 Z = true := hw _ (List.mem_of_getElem? (i := 204) rfl)
theorem w205 {a0 : Array Value} {Z : State} (hw : ∀ d ∈ tables_1, d.before a0 Z = true) : ((Jvm.Cond.selects "java/lang/String" ({ cls := "java/lang/String", name := "charAt", desc := "(I)C" } : Jvm.MethodName) ({ cls := "java/lang/String", name := "charAt", desc := "(I)C" } : Jvm.MethodName)) : Jvm.Cond).before a0 Z = true := hw _ (List.mem_of_getElem? (i := 205) rfl)
theorem w206 {a0 : Array Value} {Z : State} (hw : ∀ d ∈ tables_1, d.before a0 Z = true) : ((Jvm.Cond.code ({ cls := "java/lang/String", name := "charAt", desc := "(I)C" } : Jvm.MethodName) jdk_42_method_56_code (2 : Nat) (Option.some Jvm.ClassFile.FieldType.char)) : Jvm.Cond).before a0 Z = true := hw _ (List.mem_of_getElem? (i := 206) rfl)
theorem w207 {a0 : Array Value} {Z : State} (hw : ∀ d ∈ tables_1, d.before a0 Z = true) : ((Jvm.Cond.methodLink "java/lang/String" (492 : Nat) ({ cls := "java/lang/String", name := "isLatin1", desc := "()Z" } : Jvm.MethodName)) : Jvm.Cond).before a0 Z = true := hw _ (List.mem_of_getElem? (i := 207) rfl)
theorem w208 {a0 : Array Value} {Z : State} (hw : ∀ d ∈ tables_1, d.before a0 Z = true) : ((Jvm.Cond.declares ({ cls := "java/lang/String", name := "isLatin1", desc := "()Z" } : Jvm.MethodName)) : Jvm.Cond).before a0 Z = true := hw _ (List.mem_of_getElem? (i := 208) rfl)
theorem w209 {a0 : Array Value} {Z : State} (hw : ∀ d ∈ tables_1, d.before a0 Z = true) : ((Jvm.Cond.instanceMethod ({ cls := "java/lang/String", name := "isLatin1", desc := "()Z" } : Jvm.MethodName)) : Jvm.Cond).before a0 Z = true := hw _ (List.mem_of_getElem? (i := 209) rfl)
theorem w210 {a0 : Array Value} {Z : State} (hw : ∀ d ∈ tables_1, d.before a0 Z = true) : ((Jvm.Cond.selects "java/lang/String" ({ cls := "java/lang/String", name := "isLatin1", desc := "()Z" } : Jvm.MethodName) ({ cls := "java/lang/String", name := "isLatin1", desc := "()Z" } : Jvm.MethodName)) : Jvm.Cond).before a0 Z = true := hw _ (List.mem_of_getElem? (i := 210) rfl)
theorem w211 {a0 : Array Value} {Z : State} (hw : ∀ d ∈ tables_1, d.before a0 Z = true) : ((Jvm.Cond.code ({ cls := "java/lang/String", name := "isLatin1", desc := "()Z" } : Jvm.MethodName) jdk_42_method_154_code (1 : Nat) (Option.some Jvm.ClassFile.FieldType.boolean)) : Jvm.Cond).before a0 Z = true := hw _ (List.mem_of_getElem? (i := 211) rfl)
theorem w212 {a0 : Array Value} {Z : State} (hw : ∀ d ∈ tables_1, d.before a0 Z = true) : ((Jvm.Cond.methodLink "java/lang/String" (495 : Nat) ({ cls := "java/lang/StringLatin1", name := "charAt", desc := "([BI)C" } : Jvm.MethodName)) : Jvm.Cond).before a0 Z = true := hw _ (List.mem_of_getElem? (i := 212) rfl)
theorem w213 {a0 : Array Value} {Z : State} (hw : ∀ d ∈ tables_1, d.before a0 Z = true) : ((Jvm.Cond.static ({ cls := "java/lang/StringLatin1", name := "charAt", desc := "([BI)C" } : Jvm.MethodName)) : Jvm.Cond).before a0 Z = true := hw _ (List.mem_of_getElem? (i := 213) rfl)
theorem w214 {a0 : Array Value} {Z : State} (hw : ∀ d ∈ tables_1, d.before a0 Z = true) : ((Jvm.Cond.initialized "java/lang/StringLatin1") : Jvm.Cond).before a0 Z = true := hw _ (List.mem_of_getElem? (i := 214) rfl)
theorem w215 {a0 : Array Value} {Z : State} (hw : ∀ d ∈ tables_1, d.before a0 Z = true) : ((Jvm.Cond.code ({ cls := "java/lang/StringLatin1", name := "charAt", desc := "([BI)C" } : Jvm.MethodName) jdk_43_method_2_code (2 : Nat) (Option.some Jvm.ClassFile.FieldType.char)) : Jvm.Cond).before a0 Z = true := hw _ (List.mem_of_getElem? (i := 215) rfl)
theorem w216 {a0 : Array Value} {Z : State} (hw : ∀ d ∈ tables_1, d.before a0 Z = true) : ((Jvm.Cond.methodLink "java/lang/StringLatin1" (9 : Nat) ({ cls := "java/lang/String", name := "checkIndex", desc := "(II)V" } : Jvm.MethodName)) : Jvm.Cond).before a0 Z = true := hw _ (List.mem_of_getElem? (i := 216) rfl)
theorem w217 {a0 : Array Value} {Z : State} (hw : ∀ d ∈ tables_1, d.before a0 Z = true) : ((Jvm.Cond.static ({ cls := "java/lang/String", name := "checkIndex", desc := "(II)V" } : Jvm.MethodName)) : Jvm.Cond).before a0 Z = true := hw _ (List.mem_of_getElem? (i := 217) rfl)
theorem w218 {a0 : Array Value} {Z : State} (hw : ∀ d ∈ tables_1, d.before a0 Z = true) : ((Jvm.Cond.code ({ cls := "java/lang/String", name := "checkIndex", desc := "(II)V" } : Jvm.MethodName) jdk_42_method_155_code (2 : Nat) (Option.none : Option Jvm.ClassFile.FieldType)) : Jvm.Cond).before a0 Z = true := hw _ (List.mem_of_getElem? (i := 218) rfl)
theorem w219 {a0 : Array Value} {Z : State} (hw : ∀ d ∈ tables_1, d.before a0 Z = true) : ((Jvm.Cond.fieldLink "java/lang/String" (1053 : Nat) "jdk/internal/util/Preconditions" "SIOOBE_FORMATTER" "Ljava/util/function/BiFunction;") : Jvm.Cond).before a0 Z = true := hw _ (List.mem_of_getElem? (i := 219) rfl)
theorem w220 {a0 : Array Value} {Z : State} (hw : ∀ d ∈ tables_1, d.before a0 Z = true) : ((Jvm.Cond.initialized "jdk/internal/util/Preconditions") : Jvm.Cond).before a0 Z = true := hw _ (List.mem_of_getElem? (i := 220) rfl)
theorem w221 {a0 : Array Value} {Z : State} (hw : ∀ d ∈ tables_1, d.before a0 Z = true) : ((Jvm.Cond.methodLink "java/lang/String" (1059 : Nat) ({ cls := "jdk/internal/util/Preconditions", name := "checkIndex", desc := "(IILjava/util/function/BiFunction;)I" } : Jvm.MethodName)) : Jvm.Cond).before a0 Z = true := hw _ (List.mem_of_getElem? (i := 221) rfl)
theorem w222 {a0 : Array Value} {Z : State} (hw : ∀ d ∈ tables_1, d.before a0 Z = true) : ((Jvm.Cond.static ({ cls := "jdk/internal/util/Preconditions", name := "checkIndex", desc := "(IILjava/util/function/BiFunction;)I" } : Jvm.MethodName)) : Jvm.Cond).before a0 Z = true := hw _ (List.mem_of_getElem? (i := 222) rfl)
theorem w223 {a0 : Array Value} {Z : State} (hw : ∀ d ∈ tables_1, d.before a0 Z = true) : ((Jvm.Cond.code ({ cls := "jdk/internal/util/Preconditions", name := "checkIndex", desc := "(IILjava/util/function/BiFunction;)I" } : Jvm.MethodName) jdk_41_method_11_code (3 : Nat) (Option.some Jvm.ClassFile.FieldType.int)) : Jvm.Cond).before a0 Z = true := hw _ (List.mem_of_getElem? (i := 223) rfl)
theorem w224 {a0 : Array Value} {Z : State} (hw : ∀ d ∈ tables_1, d.before a0 Z = true) : ((Jvm.Cond.methodLink "java/lang/String" (177 : Nat) ({ cls := "java/lang/StringUTF16", name := "compress", desc := "([CII)[B" } : Jvm.MethodName)) : Jvm.Cond).before a0 Z = true := hw _ (List.mem_of_getElem? (i := 224) rfl)
theorem w225 {a0 : Array Value} {Z : State} (hw : ∀ d ∈ tables_1, d.before a0 Z = true) : ((Jvm.Cond.static ({ cls := "java/lang/StringUTF16", name := "compress", desc := "([CII)[B" } : Jvm.MethodName)) : Jvm.Cond).before a0 Z = true := hw _ (List.mem_of_getElem? (i := 225) rfl)
theorem w226 {a0 : Array Value} {Z : State} (hw : ∀ d ∈ tables_1, d.before a0 Z = true) : ((Jvm.Cond.initialized "java/lang/StringUTF16") : Jvm.Cond).before a0 Z = true := hw _ (List.mem_of_getElem? (i := 226) rfl)
theorem w227 {a0 : Array Value} {Z : State} (hw : ∀ d ∈ tables_1, d.before a0 Z = true) : ((Jvm.Cond.code ({ cls := "java/lang/StringUTF16", name := "compress", desc := "([CII)[B" } : Jvm.MethodName) jdk_52_method_16_code (6 : Nat) (Option.some (Jvm.ClassFile.FieldType.array Jvm.ClassFile.FieldType.byte))) : Jvm.Cond).before a0 Z = true := hw _ (List.mem_of_getElem? (i := 227) rfl)
theorem w228 {a0 : Array Value} {Z : State} (hw : ∀ d ∈ tables_1, d.before a0 Z = true) : ((Jvm.Cond.methodLink "java/lang/StringUTF16" (115 : Nat) ({ cls := "java/lang/StringUTF16", name := "compress", desc := "([CI[BII)I" } : Jvm.MethodName)) : Jvm.Cond).before a0 Z = true := hw _ (List.mem_of_getElem? (i := 228) rfl)
theorem w229 {a0 : Array Value} {Z : State} (hw : ∀ d ∈ tables_1, d.before a0 Z = true) : ((Jvm.Cond.static ({ cls := "java/lang/StringUTF16", name := "compress", desc := "([CI[BII)I" } : Jvm.MethodName)) : Jvm.Cond).before a0 Z = true := hw _ (List.mem_of_getElem? (i := 229) rfl)
theorem w230 {a0 : Array Value} {Z : State} (hw : ∀ d ∈ tables_1, d.before a0 Z = true) : ((Jvm.Cond.code ({ cls := "java/lang/StringUTF16", name := "compress", desc := "([CI[BII)I" } : Jvm.MethodName) jdk_52_method_21_code (7 : Nat) (Option.some Jvm.ClassFile.FieldType.int)) : Jvm.Cond).before a0 Z = true := hw _ (List.mem_of_getElem? (i := 230) rfl)
theorem w231 {a0 : Array Value} {Z : State} (hw : ∀ d ∈ tables_1, d.before a0 Z = true) : ((Jvm.Cond.methodLink "java/lang/String" (47 : Nat) ({ cls := "java/lang/StringUTF16", name := "coderFromArrayLen", desc := "([BI)B" } : Jvm.MethodName)) : Jvm.Cond).before a0 Z = true := hw _ (List.mem_of_getElem? (i := 231) rfl)
theorem w232 {a0 : Array Value} {Z : State} (hw : ∀ d ∈ tables_1, d.before a0 Z = true) : ((Jvm.Cond.static ({ cls := "java/lang/StringUTF16", name := "coderFromArrayLen", desc := "([BI)B" } : Jvm.MethodName)) : Jvm.Cond).before a0 Z = true := hw _ (List.mem_of_getElem? (i := 232) rfl)
theorem w233 {a0 : Array Value} {Z : State} (hw : ∀ d ∈ tables_1, d.before a0 Z = true) : ((Jvm.Cond.code ({ cls := "java/lang/StringUTF16", name := "coderFromArrayLen", desc := "([BI)B" } : Jvm.MethodName) jdk_52_method_15_code (2 : Nat) (Option.some Jvm.ClassFile.FieldType.byte)) : Jvm.Cond).before a0 Z = true := hw _ (List.mem_of_getElem? (i := 233) rfl)
theorem w234 {a0 : Array Value} {Z : State} (hw : ∀ d ∈ tables_1, d.before a0 Z = true) : ((Jvm.Cond.methodLink "java/lang/AbstractStringBuilder" (104 : Nat) ({ cls := "java/lang/AbstractStringBuilder", name := "newCapacity", desc := "(I)I" } : Jvm.MethodName)) : Jvm.Cond).before a0 Z = true := hw _ (List.mem_of_getElem? (i := 234) rfl)
theorem w235 {a0 : Array Value} {Z : State} (hw : ∀ d ∈ tables_1, d.before a0 Z = true) : ((Jvm.Cond.instanceMethod ({ cls := "java/lang/AbstractStringBuilder", name := "newCapacity", desc := "(I)I" } : Jvm.MethodName)) : Jvm.Cond).before a0 Z = true := hw _ (List.mem_of_getElem? (i := 235) rfl)
theorem w236 {a0 : Array Value} {Z : State} (hw : ∀ d ∈ tables_1, d.before a0 Z = true) : ((Jvm.Cond.privateMethod ({ cls := "java/lang/AbstractStringBuilder", name := "newCapacity", desc := "(I)I" } : Jvm.MethodName)) : Jvm.Cond).before a0 Z = true := hw _ (List.mem_of_getElem? (i := 236) rfl)
theorem w238 {a0 : Array Value} {Z : State} (hw : ∀ d ∈ tables_1, d.before a0 Z = true) : ((Jvm.Cond.code ({ cls := "java/lang/AbstractStringBuilder", name := "newCapacity", desc := "(I)I" } : Jvm.MethodName) jdk_68_method_10_code (6 : Nat) (Option.some Jvm.ClassFile.FieldType.int)) : Jvm.Cond).before a0 Z = true := hw _ (List.mem_of_getElem? (i := 238) rfl)
theorem w239 {a0 : Array Value} {Z : State} (hw : ∀ d ∈ tables_1, d.before a0 Z = true) : ((Jvm.Cond.methodLink "java/lang/AbstractStringBuilder" (114 : Nat) ({ cls := "jdk/internal/util/ArraysSupport", name := "newLength", desc := "(III)I" } : Jvm.MethodName)) : Jvm.Cond).before a0 Z = true := hw _ (List.mem_of_getElem? (i := 239) rfl)
theorem w240 {a0 : Array Value} {Z : State} (hw : ∀ d ∈ tables_1, d.before a0 Z = true) : ((Jvm.Cond.static ({ cls := "jdk/internal/util/ArraysSupport", name := "newLength", desc := "(III)I" } : Jvm.MethodName)) : Jvm.Cond).before a0 Z = true := hw _ (List.mem_of_getElem? (i := 240) rfl)
theorem w241 {a0 : Array Value} {Z : State} (hw : ∀ d ∈ tables_1, d.before a0 Z = true) : ((Jvm.Cond.initialized "jdk/internal/util/ArraysSupport") : Jvm.Cond).before a0 Z = true := hw _ (List.mem_of_getElem? (i := 241) rfl)
theorem w242 {a0 : Array Value} {Z : State} (hw : ∀ d ∈ tables_1, d.before a0 Z = true) : ((Jvm.Cond.code ({ cls := "jdk/internal/util/ArraysSupport", name := "newLength", desc := "(III)I" } : Jvm.MethodName) jdk_48_method_27_code (4 : Nat) (Option.some Jvm.ClassFile.FieldType.int)) : Jvm.Cond).before a0 Z = true := hw _ (List.mem_of_getElem? (i := 242) rfl)
theorem w243 {a0 : Array Value} {Z : State} (hw : ∀ d ∈ tables_1, d.before a0 Z = true) : ((Jvm.Cond.methodLink "jdk/internal/util/ArraysSupport" (194 : Nat) ({ cls := "java/lang/Math", name := "max", desc := "(II)I" } : Jvm.MethodName)) : Jvm.Cond).before a0 Z = true := hw _ (List.mem_of_getElem? (i := 243) rfl)
theorem w244 {a0 : Array Value} {Z : State} (hw : ∀ d ∈ tables_1, d.before a0 Z = true) : ((Jvm.Cond.static ({ cls := "java/lang/Math", name := "max", desc := "(II)I" } : Jvm.MethodName)) : Jvm.Cond).before a0 Z = true := hw _ (List.mem_of_getElem? (i := 244) rfl)
theorem w245 {a0 : Array Value} {Z : State} (hw : ∀ d ∈ tables_1, d.before a0 Z = true) : ((Jvm.Cond.code ({ cls := "java/lang/Math", name := "max", desc := "(II)I" } : Jvm.MethodName) jdk_29_method_65_code (2 : Nat) (Option.some Jvm.ClassFile.FieldType.int)) : Jvm.Cond).before a0 Z = true := hw _ (List.mem_of_getElem? (i := 245) rfl)
theorem w246 {a0 : Array Value} {Z : State} (hw : ∀ d ∈ tables_1, d.before a0 Z = true) : ((Jvm.Cond.constant "jdk/internal/util/ArraysSupport" (200 : Nat) (2147483639 : Int32)) : Jvm.Cond).before a0 Z = true := hw _ (List.mem_of_getElem? (i := 246) rfl)
theorem w247 {a0 : Array Value} {Z : State} (hw : ∀ d ∈ tables_1, d.before a0 Z = true) : ((Jvm.Cond.constant "java/lang/AbstractStringBuilder" (39 : Nat) (2147483647 : Int32)) : Jvm.Cond).before a0 Z = true := hw _ (List.mem_of_getElem? (i := 247) rfl)
theorem w248 {a0 : Array Value} {Z : State} (hw : ∀ d ∈ tables_1, d.before a0 Z = true) : ((Jvm.Cond.methodLink "java/lang/AbstractStringBuilder" (108 : Nat) ({ cls := "java/util/Arrays", name := "copyOf", desc := "([BI)[B" } : Jvm.MethodName)) : Jvm.Cond).before a0 Z = true := hw _ (List.mem_of_getElem? (i := 248) rfl)
theorem w249 {a0 : Array Value} {Z : State} (hw : ∀ d ∈ tables_1, d.before a0 Z = true) : ((Jvm.Cond.static ({ cls := "java/util/Arrays", name := "copyOf", desc := "([BI)[B" } : Jvm.MethodName)) : Jvm.Cond).before a0 Z = true := hw _ (List.mem_of_getElem? (i := 249) rfl)
theorem w250 {a0 : Array Value} {Z : State} (hw : ∀ d ∈ tables_1, d.before a0 Z = true) : ((Jvm.Cond.code ({ cls := "java/util/Arrays", name := "copyOf", desc := "([BI)[B" } : Jvm.MethodName) jdk_65_method_121_code (3 : Nat) (Option.some (Jvm.ClassFile.FieldType.array Jvm.ClassFile.FieldType.byte))) : Jvm.Cond).before a0 Z = true := hw _ (List.mem_of_getElem? (i := 250) rfl)
theorem w251 {a0 : Array Value} {Z : State} (hw : ∀ d ∈ tables_1, d.before a0 Z = true) : ((Jvm.Cond.methodLink "com/example/rungway/rungway/framework/InstallExceptionInvalidHeaderPinLaw" (12 : Nat) ({ cls := "java/lang/String", name := "valueOf", desc := "(C)Ljava/lang/String;" } : Jvm.MethodName)) : Jvm.Cond).before a0 Z = true := hw _ (List.mem_of_getElem? (i := 251) rfl)
theorem w252 {a0 : Array Value} {Z : State} (hw : ∀ d ∈ tables_1, d.before a0 Z = true) : ((Jvm.Cond.static ({ cls := "java/lang/String", name := "valueOf", desc := "(C)Ljava/lang/String;" } : Jvm.MethodName)) : Jvm.Cond).before a0 Z = true := hw _ (List.mem_of_getElem? (i := 252) rfl)
theorem w253 {a0 : Array Value} {Z : State} (hw : ∀ d ∈ tables_1, d.before a0 Z = true) : ((Jvm.Cond.code ({ cls := "java/lang/String", name := "valueOf", desc := "(C)Ljava/lang/String;" } : Jvm.MethodName) jdk_42_method_139_code (1 : Nat) (Option.some (Jvm.ClassFile.FieldType.object "java/lang/String"))) : Jvm.Cond).before a0 Z = true := hw _ (List.mem_of_getElem? (i := 253) rfl)
theorem w254 {a0 : Array Value} {Z : State} (hw : ∀ d ∈ tables_1, d.before a0 Z = true) : ((Jvm.Cond.methodLink "java/lang/String" (1015 : Nat) ({ cls := "java/lang/StringLatin1", name := "canEncode", desc := "(C)Z" } : Jvm.MethodName)) : Jvm.Cond).before a0 Z = true := hw _ (List.mem_of_getElem? (i := 254) rfl)
theorem w255 {a0 : Array Value} {Z : State} (hw : ∀ d ∈ tables_1, d.before a0 Z = true) : ((Jvm.Cond.static ({ cls := "java/lang/StringLatin1", name := "canEncode", desc := "(C)Z" } : Jvm.MethodName)) : Jvm.Cond).before a0 Z = true := hw _ (List.mem_of_getElem? (i := 255) rfl)
theorem w256 {a0 : Array Value} {Z : State} (hw : ∀ d ∈ tables_1, d.before a0 Z = true) : ((Jvm.Cond.code ({ cls := "java/lang/StringLatin1", name := "canEncode", desc := "(C)Z" } : Jvm.MethodName) jdk_43_method_3_code (1 : Nat) (Option.some Jvm.ClassFile.FieldType.boolean)) : Jvm.Cond).before a0 Z = true := hw _ (List.mem_of_getElem? (i := 256) rfl)
theorem w257 {a0 : Array Value} {Z : State} (hw : ∀ d ∈ tables_1, d.before a0 Z = true) : ((Jvm.Cond.classLink "java/lang/String" (10 : Nat) "java/lang/String") : Jvm.Cond).before a0 Z = true := hw _ (List.mem_of_getElem? (i := 257) rfl)
theorem w258 {a0 : Array Value} {Z : State} (hw : ∀ d ∈ tables_1, d.before a0 Z = true) : ((Jvm.Cond.methodLink "java/lang/String" (1018 : Nat) ({ cls := "java/lang/StringLatin1", name := "toBytes", desc := "(C)[B" } : Jvm.MethodName)) : Jvm.Cond).before a0 Z = true := hw _ (List.mem_of_getElem? (i := 258) rfl)
theorem w259 {a0 : Array Value} {Z : State} (hw : ∀ d ∈ tables_1, d.before a0 Z = true) : ((Jvm.Cond.static ({ cls := "java/lang/StringLatin1", name := "toBytes", desc := "(C)[B" } : Jvm.MethodName)) : Jvm.Cond).before a0 Z = true := hw _ (List.mem_of_getElem? (i := 259) rfl)
theorem w260 {a0 : Array Value} {Z : State} (hw : ∀ d ∈ tables_1, d.before a0 Z = true) : ((Jvm.Cond.code ({ cls := "java/lang/StringLatin1", name := "toBytes", desc := "(C)[B" } : Jvm.MethodName) jdk_43_method_46_code (1 : Nat) (Option.some (Jvm.ClassFile.FieldType.array Jvm.ClassFile.FieldType.byte))) : Jvm.Cond).before a0 Z = true := hw _ (List.mem_of_getElem? (i := 260) rfl)
theorem w261 {a0 : Array Value} {Z : State} (hw : ∀ d ∈ tables_1, d.before a0 Z = true) : ((Jvm.Cond.methodLink "java/lang/String" (209 : Nat) ({ cls := "java/lang/String", name := "<init>", desc := "([BB)V" } : Jvm.MethodName)) : Jvm.Cond).before a0 Z = true := hw _ (List.mem_of_getElem? (i := 261) rfl)
theorem w262 {a0 : Array Value} {Z : State} (hw : ∀ d ∈ tables_1, d.before a0 Z = true) : ((Jvm.Cond.instanceMethod ({ cls := "java/lang/String", name := "<init>", desc := "([BB)V" } : Jvm.MethodName)) : Jvm.Cond).before a0 Z = true := hw _ (List.mem_of_getElem? (i := 262) rfl)
theorem w263 {a0 : Array Value} {Z : State} (hw : ∀ d ∈ tables_1, d.before a0 Z = true) : ((Jvm.Cond.code ({ cls := "java/lang/String", name := "<init>", desc := "([BB)V" } : Jvm.MethodName) jdk_42_method_151_code (3 : Nat) (Option.none : Option Jvm.ClassFile.FieldType)) : Jvm.Cond).before a0 Z = true := hw _ (List.mem_of_getElem? (i := 263) rfl)
theorem w264 {a0 : Array Value} {Z : State} (hw : ∀ d ∈ tables_1, d.before a0 Z = true) : ((Jvm.Cond.methodLink "java/util/Arrays" (310 : Nat) ({ cls := "[B", name := "clone", desc := "()Ljava/lang/Object;" } : Jvm.MethodName)) : Jvm.Cond).before a0 Z = true := hw _ (List.mem_of_getElem? (i := 264) rfl)
theorem w265 {a0 : Array Value} {Z : State} (hw : ∀ d ∈ tables_1, d.before a0 Z = true) : ((Jvm.Cond.sameMethod "[B" "java/lang/Object" "clone" "()Ljava/lang/Object;") : Jvm.Cond).before a0 Z = true := hw _ (List.mem_of_getElem? (i := 265) rfl)
theorem w267 {a0 : Array Value} {Z : State} (hw : ∀ d ∈ tables_1, d.before a0 Z = true) : ((Jvm.Cond.instanceMethod ({ cls := "java/lang/Object", name := "clone", desc := "()Ljava/lang/Object;" } : Jvm.MethodName)) : Jvm.Cond).before a0 Z = true := hw _ (List.mem_of_getElem? (i := 267) rfl)
theorem w268 {a0 : Array Value} {Z : State} (hw : ∀ d ∈ tables_1, d.before a0 Z = true) : ((Jvm.Cond.selects "[B" ({ cls := "[B", name := "clone", desc := "()Ljava/lang/Object;" } : Jvm.MethodName) ({ cls := "java/lang/Object", name := "clone", desc := "()Ljava/lang/Object;" } : Jvm.MethodName)) : Jvm.Cond).before a0 Z = true := hw _ (List.mem_of_getElem? (i := 268) rfl)
theorem w269 {a0 : Array Value} {Z : State} (hw : ∀ d ∈ tables_1, d.before a0 Z = true) : ((Jvm.Cond.native ({ cls := "java/lang/Object", name := "clone", desc := "()Ljava/lang/Object;" } : Jvm.MethodName)) : Jvm.Cond).before a0 Z = true := hw _ (List.mem_of_getElem? (i := 269) rfl)
theorem w270 {a0 : Array Value} {Z : State} (hw : ∀ d ∈ tables_1, d.before a0 Z = true) : ((Jvm.Cond.castable "[B" "java/lang/Cloneable") : Jvm.Cond).before a0 Z = true := hw _ (List.mem_of_getElem? (i := 270) rfl)
theorem w271 {a0 : Array Value} {Z : State} (hw : ∀ d ∈ tables_1, d.before a0 Z = true) : ((Jvm.Cond.classLink "java/util/Arrays" (311 : Nat) "[B") : Jvm.Cond).before a0 Z = true := hw _ (List.mem_of_getElem? (i := 271) rfl)
theorem w272 {a0 : Array Value} {Z : State} (hw : ∀ d ∈ tables_1, d.before a0 Z = true) : ((Jvm.Cond.castable "[B" "[B") : Jvm.Cond).before a0 Z = true := hw _ (List.mem_of_getElem? (i := 272) rfl)
theorem wStr {a0 : Array Value} {Z : State} (hw : ∀ d ∈ tables_1, d.before a0 Z = true) : ∀ d ∈ Bundle.stringAtoms, d.before a0 Z = true := fun d hd => by
  simp only [Bundle.stringAtoms, List.mem_cons, List.not_mem_nil, or_false] at hd
  rcases hd with rfl | rfl | rfl | rfl | rfl | rfl | rfl
  · exact (w2 hw)
  · exact (w1 hw)
  · exact (w15 hw)
  · exact (w16 hw)
  · exact (w17 hw)
  · exact (w18 hw)
  · exact (w19 hw)
abbrev EL1 : List (String × Nat) := consts_1
theorem ew {a0 : Array Value} {Z : State} (hw : ∀ d ∈ tables_1, d.before a0 Z = true) : EW Z a0 EL1 := EW.cons (w46 hw) (by decide) (EW.cons (w14 hw) (by decide) (EW.nil))
theorem d_mmax_0 : decode jdk_29_method_65_code 0 = .ok (.iload_n 0, 1) := by decide +kernel
theorem d_mmax_1 : decode jdk_29_method_65_code 1 = .ok (.iload_n 1, 1) := by decide +kernel
theorem d_mmax_2 : decode jdk_29_method_65_code 2 = .ok (.if_icmp .lt 7, 3) := by decide +kernel
theorem d_mmax_9 : decode jdk_29_method_65_code 9 = .ok (.iload_n 1, 1) := by decide +kernel
theorem d_mmax_10 : decode jdk_29_method_65_code 10 = .ok (.ireturn, 1) := by decide +kernel
theorem d_mmin_0 : decode jdk_29_method_69_code 0 = .ok (.iload_n 0, 1) := by decide +kernel
theorem d_mmin_1 : decode jdk_29_method_69_code 1 = .ok (.iload_n 1, 1) := by decide +kernel
theorem d_mmin_2 : decode jdk_29_method_69_code 2 = .ok (.if_icmp .gt 7, 3) := by decide +kernel
theorem d_mmin_5 : decode jdk_29_method_69_code 5 = .ok (.iload_n 0, 1) := by decide +kernel
theorem d_mmin_6 : decode jdk_29_method_69_code 6 = .ok (.goto 4, 3) := by decide +kernel
theorem d_mmin_9 : decode jdk_29_method_69_code 9 = .ok (.iload_n 1, 1) := by decide +kernel
theorem d_mmin_10 : decode jdk_29_method_69_code 10 = .ok (.ireturn, 1) := by decide +kernel
theorem d_pcix_0 : decode jdk_41_method_11_code 0 = .ok (.iload_n 0, 1) := by decide +kernel
theorem d_pcix_1 : decode jdk_41_method_11_code 1 = .ok (.ifCond .lt 8, 3) := by decide +kernel
theorem d_pcix_4 : decode jdk_41_method_11_code 4 = .ok (.iload_n 0, 1) := by decide +kernel
theorem d_pcix_5 : decode jdk_41_method_11_code 5 = .ok (.iload_n 1, 1) := by decide +kernel
theorem d_pcix_6 : decode jdk_41_method_11_code 6 = .ok (.if_icmp .lt 10, 3) := by decide +kernel
theorem d_pcix_16 : decode jdk_41_method_11_code 16 = .ok (.iload_n 0, 1) := by decide +kernel
theorem d_pcix_17 : decode jdk_41_method_11_code 17 = .ok (.ireturn, 1) := by decide +kernel
theorem d_vof_0 : decode jdk_42_method_139_code 0 = .ok (.getstatic 38, 3) := by decide +kernel
theorem d_vof_3 : decode jdk_42_method_139_code 3 = .ok (.ifCond .eq 23, 3) := by decide +kernel
theorem d_vof_6 : decode jdk_42_method_139_code 6 = .ok (.iload_n 0, 1) := by decide +kernel
theorem d_vof_7 : decode jdk_42_method_139_code 7 = .ok (.invokestatic 1015, 3) := by decide +kernel
theorem d_vof_10 : decode jdk_42_method_139_code 10 = .ok (.ifCond .eq 16, 3) := by decide +kernel
theorem d_vof_13 : decode jdk_42_method_139_code 13 = .ok (.new 10, 3) := by decide +kernel
theorem d_vof_16 : decode jdk_42_method_139_code 16 = .ok (.dup, 1) := by decide +kernel
theorem d_vof_17 : decode jdk_42_method_139_code 17 = .ok (.iload_n 0, 1) := by decide +kernel
theorem d_vof_18 : decode jdk_42_method_139_code 18 = .ok (.invokestatic 1018, 3) := by decide +kernel
theorem d_vof_21 : decode jdk_42_method_139_code 21 = .ok (.iconst 0, 1) := by decide +kernel
theorem d_vof_22 : decode jdk_42_method_139_code 22 = .ok (.invokespecial 209, 3) := by decide +kernel
theorem d_vof_25 : decode jdk_42_method_139_code 25 = .ok (.areturn, 1) := by decide +kernel
theorem d_gbyt_0 : decode jdk_42_method_147_code 0 = .ok (.aload_n 0, 1) := by decide +kernel
theorem d_gbyt_1 : decode jdk_42_method_147_code 1 = .ok (.invokevirtual 335, 3) := by decide +kernel
theorem d_gbyt_4 : decode jdk_42_method_147_code 4 = .ok (.iload_n 3, 1) := by decide +kernel
theorem d_gbyt_5 : decode jdk_42_method_147_code 5 = .ok (.if_icmp .ne 23, 3) := by decide +kernel
theorem d_gbyt_8 : decode jdk_42_method_147_code 8 = .ok (.aload_n 0, 1) := by decide +kernel
theorem d_gbyt_9 : decode jdk_42_method_147_code 9 = .ok (.getfield 9, 3) := by decide +kernel
theorem d_gbyt_12 : decode jdk_42_method_147_code 12 = .ok (.iconst 0, 1) := by decide +kernel
theorem d_gbyt_13 : decode jdk_42_method_147_code 13 = .ok (.aload_n 1, 1) := by decide +kernel
theorem d_gbyt_14 : decode jdk_42_method_147_code 14 = .ok (.iload_n 2, 1) := by decide +kernel
theorem d_gbyt_15 : decode jdk_42_method_147_code 15 = .ok (.iload_n 3, 1) := by decide +kernel
theorem d_gbyt_16 : decode jdk_42_method_147_code 16 = .ok (.ishl, 1) := by decide +kernel
theorem d_gbyt_17 : decode jdk_42_method_147_code 17 = .ok (.aload_n 0, 1) := by decide +kernel
theorem d_gbyt_18 : decode jdk_42_method_147_code 18 = .ok (.getfield 9, 3) := by decide +kernel
theorem d_gbyt_21 : decode jdk_42_method_147_code 21 = .ok (.arraylength, 1) := by decide +kernel
theorem d_gbyt_22 : decode jdk_42_method_147_code 22 = .ok (.invokestatic 212, 3) := by decide +kernel
theorem d_gbyt_25 : decode jdk_42_method_147_code 25 = .ok (.goto 18, 3) := by decide +kernel
theorem d_gbyt_43 : decode jdk_42_method_147_code 43 = .ok (.return_, 1) := by decide +kernel
theorem d_sini4_0 : decode jdk_42_method_149_code 0 = .ok (.aload_n 0, 1) := by decide +kernel
theorem d_sini4_1 : decode jdk_42_method_149_code 1 = .ok (.invokespecial 1, 3) := by decide +kernel
theorem d_sini4_4 : decode jdk_42_method_149_code 4 = .ok (.iload_n 3, 1) := by decide +kernel
theorem d_sini4_5 : decode jdk_42_method_149_code 5 = .ok (.ifCond .ne 22, 3) := by decide +kernel
theorem d_sini4_8 : decode jdk_42_method_149_code 8 = .ok (.aload_n 0, 1) := by decide +kernel
theorem d_sini4_9 : decode jdk_42_method_149_code 9 = .ok (.ldc 7, 2) := by decide +kernel
theorem d_sini4_11 : decode jdk_42_method_149_code 11 = .ok (.getfield 9, 3) := by decide +kernel
theorem d_sini4_14 : decode jdk_42_method_149_code 14 = .ok (.putfield 9, 3) := by decide +kernel
theorem d_sini4_17 : decode jdk_42_method_149_code 17 = .ok (.aload_n 0, 1) := by decide +kernel
theorem d_sini4_18 : decode jdk_42_method_149_code 18 = .ok (.ldc 7, 2) := by decide +kernel
theorem d_sini4_20 : decode jdk_42_method_149_code 20 = .ok (.getfield 15, 3) := by decide +kernel
theorem d_sini4_23 : decode jdk_42_method_149_code 23 = .ok (.putfield 15, 3) := by decide +kernel
theorem d_sini4_26 : decode jdk_42_method_149_code 26 = .ok (.return_, 1) := by decide +kernel
theorem d_sini4_27 : decode jdk_42_method_149_code 27 = .ok (.getstatic 38, 3) := by decide +kernel
theorem d_sini4_30 : decode jdk_42_method_149_code 30 = .ok (.ifCond .eq 28, 3) := by decide +kernel
theorem d_sini4_33 : decode jdk_42_method_149_code 33 = .ok (.aload_n 1, 1) := by decide +kernel
theorem d_sini4_34 : decode jdk_42_method_149_code 34 = .ok (.iload_n 2, 1) := by decide +kernel
theorem d_sini4_35 : decode jdk_42_method_149_code 35 = .ok (.iload_n 3, 1) := by decide +kernel
theorem d_sini4_36 : decode jdk_42_method_149_code 36 = .ok (.invokestatic 177, 3) := by decide +kernel
theorem d_sini4_39 : decode jdk_42_method_149_code 39 = .ok (.astore 5, 2) := by decide +kernel
theorem d_sini4_41 : decode jdk_42_method_149_code 41 = .ok (.aload_n 0, 1) := by decide +kernel
theorem d_sini4_42 : decode jdk_42_method_149_code 42 = .ok (.aload 5, 2) := by decide +kernel
theorem d_sini4_44 : decode jdk_42_method_149_code 44 = .ok (.iload_n 3, 1) := by decide +kernel
theorem d_sini4_45 : decode jdk_42_method_149_code 45 = .ok (.invokestatic 47, 3) := by decide +kernel
theorem d_sini4_48 : decode jdk_42_method_149_code 48 = .ok (.putfield 15, 3) := by decide +kernel
theorem d_sini4_51 : decode jdk_42_method_149_code 51 = .ok (.aload_n 0, 1) := by decide +kernel
theorem d_sini4_52 : decode jdk_42_method_149_code 52 = .ok (.aload 5, 2) := by decide +kernel
theorem d_sini4_54 : decode jdk_42_method_149_code 54 = .ok (.putfield 9, 3) := by decide +kernel
theorem d_sini4_57 : decode jdk_42_method_149_code 57 = .ok (.return_, 1) := by decide +kernel
theorem d_siav_0 : decode jdk_42_method_150_code 0 = .ok (.aload_n 0, 1) := by decide +kernel
theorem d_siav_1 : decode jdk_42_method_150_code 1 = .ok (.invokespecial 1, 3) := by decide +kernel
theorem d_siav_4 : decode jdk_42_method_150_code 4 = .ok (.aload_n 1, 1) := by decide +kernel
theorem d_siav_5 : decode jdk_42_method_150_code 5 = .ok (.invokevirtual 552, 3) := by decide +kernel
theorem d_siav_8 : decode jdk_42_method_150_code 8 = .ok (.astore_n 3, 1) := by decide +kernel
theorem d_siav_9 : decode jdk_42_method_150_code 9 = .ok (.aload_n 1, 1) := by decide +kernel
theorem d_siav_10 : decode jdk_42_method_150_code 10 = .ok (.invokevirtual 549, 3) := by decide +kernel
theorem d_siav_13 : decode jdk_42_method_150_code 13 = .ok (.istore 4, 2) := by decide +kernel
theorem d_siav_15 : decode jdk_42_method_150_code 15 = .ok (.aload_n 1, 1) := by decide +kernel
theorem d_siav_16 : decode jdk_42_method_150_code 16 = .ok (.invokevirtual 1047, 3) := by decide +kernel
theorem d_siav_19 : decode jdk_42_method_150_code 19 = .ok (.ifCond .eq 22, 3) := by decide +kernel
theorem d_siav_22 : decode jdk_42_method_150_code 22 = .ok (.aload_n 0, 1) := by decide +kernel
theorem d_siav_23 : decode jdk_42_method_150_code 23 = .ok (.iconst 0, 1) := by decide +kernel
theorem d_siav_24 : decode jdk_42_method_150_code 24 = .ok (.putfield 15, 3) := by decide +kernel
theorem d_siav_27 : decode jdk_42_method_150_code 27 = .ok (.aload_n 0, 1) := by decide +kernel
theorem d_siav_28 : decode jdk_42_method_150_code 28 = .ok (.aload_n 3, 1) := by decide +kernel
theorem d_siav_29 : decode jdk_42_method_150_code 29 = .ok (.iconst 0, 1) := by decide +kernel
theorem d_siav_30 : decode jdk_42_method_150_code 30 = .ok (.iload 4, 2) := by decide +kernel
theorem d_siav_32 : decode jdk_42_method_150_code 32 = .ok (.invokestatic 54, 3) := by decide +kernel
theorem d_siav_35 : decode jdk_42_method_150_code 35 = .ok (.putfield 9, 3) := by decide +kernel
theorem d_siav_38 : decode jdk_42_method_150_code 38 = .ok (.goto 59, 3) := by decide +kernel
theorem d_siav_97 : decode jdk_42_method_150_code 97 = .ok (.return_, 1) := by decide +kernel
theorem d_siv0_0 : decode jdk_42_method_150_code 0 = .ok (.aload_n 0, 1) := by decide +kernel
theorem d_siv0_1 : decode jdk_42_method_150_code 1 = .ok (.invokespecial 1, 3) := by decide +kernel
theorem d_siv0_4 : decode jdk_42_method_150_code 4 = .ok (.aload_n 1, 1) := by decide +kernel
theorem d_siv0_5 : decode jdk_42_method_150_code 5 = .ok (.invokevirtual 552, 3) := by decide +kernel
theorem d_siv0_8 : decode jdk_42_method_150_code 8 = .ok (.astore_n 3, 1) := by decide +kernel
theorem d_siv0_9 : decode jdk_42_method_150_code 9 = .ok (.aload_n 1, 1) := by decide +kernel
theorem d_siv0_10 : decode jdk_42_method_150_code 10 = .ok (.invokevirtual 549, 3) := by decide +kernel
theorem d_siv0_13 : decode jdk_42_method_150_code 13 = .ok (.istore 4, 2) := by decide +kernel
theorem d_siv0_15 : decode jdk_42_method_150_code 15 = .ok (.aload_n 1, 1) := by decide +kernel
theorem d_siv0_16 : decode jdk_42_method_150_code 16 = .ok (.invokevirtual 1047, 3) := by decide +kernel
theorem d_siv0_19 : decode jdk_42_method_150_code 19 = .ok (.ifCond .eq 22, 3) := by decide +kernel
theorem d_siv0_22 : decode jdk_42_method_150_code 22 = .ok (.aload_n 0, 1) := by decide +kernel
theorem d_siv0_23 : decode jdk_42_method_150_code 23 = .ok (.iconst 0, 1) := by decide +kernel
theorem d_siv0_24 : decode jdk_42_method_150_code 24 = .ok (.putfield 15, 3) := by decide +kernel
theorem d_siv0_27 : decode jdk_42_method_150_code 27 = .ok (.aload_n 0, 1) := by decide +kernel
theorem d_siv0_28 : decode jdk_42_method_150_code 28 = .ok (.aload_n 3, 1) := by decide +kernel
theorem d_siv0_29 : decode jdk_42_method_150_code 29 = .ok (.iconst 0, 1) := by decide +kernel
theorem d_siv0_30 : decode jdk_42_method_150_code 30 = .ok (.iload 4, 2) := by decide +kernel
theorem d_siv0_32 : decode jdk_42_method_150_code 32 = .ok (.invokestatic 54, 3) := by decide +kernel
theorem d_siv0_35 : decode jdk_42_method_150_code 35 = .ok (.putfield 9, 3) := by decide +kernel
theorem d_siv0_38 : decode jdk_42_method_150_code 38 = .ok (.goto 59, 3) := by decide +kernel
theorem d_siv0_97 : decode jdk_42_method_150_code 97 = .ok (.return_, 1) := by decide +kernel
theorem d_sinib_0 : decode jdk_42_method_151_code 0 = .ok (.aload_n 0, 1) := by decide +kernel
theorem d_sinib_1 : decode jdk_42_method_151_code 1 = .ok (.invokespecial 1, 3) := by decide +kernel
theorem d_sinib_4 : decode jdk_42_method_151_code 4 = .ok (.aload_n 0, 1) := by decide +kernel
theorem d_sinib_5 : decode jdk_42_method_151_code 5 = .ok (.aload_n 1, 1) := by decide +kernel
theorem d_sinib_6 : decode jdk_42_method_151_code 6 = .ok (.putfield 9, 3) := by decide +kernel
theorem d_sinib_9 : decode jdk_42_method_151_code 9 = .ok (.aload_n 0, 1) := by decide +kernel
theorem d_sinib_10 : decode jdk_42_method_151_code 10 = .ok (.iload_n 2, 1) := by decide +kernel
theorem d_sinib_11 : decode jdk_42_method_151_code 11 = .ok (.putfield 15, 3) := by decide +kernel
theorem d_sinib_14 : decode jdk_42_method_151_code 14 = .ok (.return_, 1) := by decide +kernel
theorem d_scod_0 : decode jdk_42_method_152_code 0 = .ok (.getstatic 38, 3) := by decide +kernel
theorem d_scod_3 : decode jdk_42_method_152_code 3 = .ok (.ifCond .eq 10, 3) := by decide +kernel
theorem d_scod_6 : decode jdk_42_method_152_code 6 = .ok (.aload_n 0, 1) := by decide +kernel
theorem d_scod_7 : decode jdk_42_method_152_code 7 = .ok (.getfield 15, 3) := by decide +kernel
theorem d_scod_10 : decode jdk_42_method_152_code 10 = .ok (.goto 4, 3) := by decide +kernel
theorem d_scod_14 : decode jdk_42_method_152_code 14 = .ok (.ireturn, 1) := by decide +kernel
theorem d_sil1_0 : decode jdk_42_method_154_code 0 = .ok (.getstatic 38, 3) := by decide +kernel
theorem d_sil1_3 : decode jdk_42_method_154_code 3 = .ok (.ifCond .eq 14, 3) := by decide +kernel
theorem d_sil1_6 : decode jdk_42_method_154_code 6 = .ok (.aload_n 0, 1) := by decide +kernel
theorem d_sil1_7 : decode jdk_42_method_154_code 7 = .ok (.getfield 15, 3) := by decide +kernel
theorem d_sil1_10 : decode jdk_42_method_154_code 10 = .ok (.ifCond .ne 7, 3) := by decide +kernel
theorem d_sil1_13 : decode jdk_42_method_154_code 13 = .ok (.iconst 1, 1) := by decide +kernel
theorem d_sil1_14 : decode jdk_42_method_154_code 14 = .ok (.goto 4, 3) := by decide +kernel
theorem d_sil1_18 : decode jdk_42_method_154_code 18 = .ok (.ireturn, 1) := by decide +kernel
theorem d_scix_0 : decode jdk_42_method_155_code 0 = .ok (.iload_n 0, 1) := by decide +kernel
theorem d_scix_1 : decode jdk_42_method_155_code 1 = .ok (.iload_n 1, 1) := by decide +kernel
theorem d_scix_2 : decode jdk_42_method_155_code 2 = .ok (.getstatic 1053, 3) := by decide +kernel
theorem d_scix_5 : decode jdk_42_method_155_code 5 = .ok (.invokestatic 1059, 3) := by decide +kernel
theorem d_scix_8 : decode jdk_42_method_155_code 8 = .ok (.pop, 1) := by decide +kernel
theorem d_scix_9 : decode jdk_42_method_155_code 9 = .ok (.return_, 1) := by decide +kernel
theorem d_sini1_0 : decode jdk_42_method_3_code 0 = .ok (.aload_n 0, 1) := by decide +kernel
theorem d_sini1_1 : decode jdk_42_method_3_code 1 = .ok (.aload_n 1, 1) := by decide +kernel
theorem d_sini1_2 : decode jdk_42_method_3_code 2 = .ok (.iconst 0, 1) := by decide +kernel
theorem d_sini1_3 : decode jdk_42_method_3_code 3 = .ok (.aload_n 1, 1) := by decide +kernel
theorem d_sini1_4 : decode jdk_42_method_3_code 4 = .ok (.arraylength, 1) := by decide +kernel
theorem d_sini1_5 : decode jdk_42_method_3_code 5 = .ok (.aconst_null, 1) := by decide +kernel
theorem d_sini1_6 : decode jdk_42_method_3_code 6 = .ok (.invokespecial 27, 3) := by decide +kernel
theorem d_sini1_9 : decode jdk_42_method_3_code 9 = .ok (.return_, 1) := by decide +kernel
theorem d_sis0_0 : decode jdk_42_method_53_code 0 = .ok (.aload_n 0, 1) := by decide +kernel
theorem d_sis0_1 : decode jdk_42_method_53_code 1 = .ok (.aload_n 1, 1) := by decide +kernel
theorem d_sis0_2 : decode jdk_42_method_53_code 2 = .ok (.aconst_null, 1) := by decide +kernel
theorem d_sis0_3 : decode jdk_42_method_53_code 3 = .ok (.invokespecial 489, 3) := by decide +kernel
theorem d_sis0_6 : decode jdk_42_method_53_code 6 = .ok (.return_, 1) := by decide +kernel
theorem d_sisb_0 : decode jdk_42_method_53_code 0 = .ok (.aload_n 0, 1) := by decide +kernel
theorem d_sisb_1 : decode jdk_42_method_53_code 1 = .ok (.aload_n 1, 1) := by decide +kernel
theorem d_sisb_2 : decode jdk_42_method_53_code 2 = .ok (.aconst_null, 1) := by decide +kernel
theorem d_sisb_3 : decode jdk_42_method_53_code 3 = .ok (.invokespecial 489, 3) := by decide +kernel
theorem d_sisb_6 : decode jdk_42_method_53_code 6 = .ok (.return_, 1) := by decide +kernel
theorem d_slen_0 : decode jdk_42_method_54_code 0 = .ok (.aload_n 0, 1) := by decide +kernel
theorem d_slen_1 : decode jdk_42_method_54_code 1 = .ok (.getfield 9, 3) := by decide +kernel
theorem d_slen_4 : decode jdk_42_method_54_code 4 = .ok (.arraylength, 1) := by decide +kernel
theorem d_slen_5 : decode jdk_42_method_54_code 5 = .ok (.aload_n 0, 1) := by decide +kernel
theorem d_slen_6 : decode jdk_42_method_54_code 6 = .ok (.invokevirtual 335, 3) := by decide +kernel
theorem d_slen_9 : decode jdk_42_method_54_code 9 = .ok (.ishr, 1) := by decide +kernel
theorem d_slen_10 : decode jdk_42_method_54_code 10 = .ok (.ireturn, 1) := by decide +kernel
theorem d_scha_0 : decode jdk_42_method_56_code 0 = .ok (.aload_n 0, 1) := by decide +kernel
theorem d_scha_1 : decode jdk_42_method_56_code 1 = .ok (.invokevirtual 492, 3) := by decide +kernel
theorem d_scha_4 : decode jdk_42_method_56_code 4 = .ok (.ifCond .eq 12, 3) := by decide +kernel
theorem d_scha_7 : decode jdk_42_method_56_code 7 = .ok (.aload_n 0, 1) := by decide +kernel
theorem d_scha_8 : decode jdk_42_method_56_code 8 = .ok (.getfield 9, 3) := by decide +kernel
theorem d_scha_11 : decode jdk_42_method_56_code 11 = .ok (.iload_n 1, 1) := by decide +kernel
theorem d_scha_12 : decode jdk_42_method_56_code 12 = .ok (.invokestatic 495, 3) := by decide +kernel
theorem d_scha_15 : decode jdk_42_method_56_code 15 = .ok (.ireturn, 1) := by decide +kernel
theorem d_lcha_0 : decode jdk_43_method_2_code 0 = .ok (.iload_n 1, 1) := by decide +kernel
theorem d_lcha_1 : decode jdk_43_method_2_code 1 = .ok (.aload_n 0, 1) := by decide +kernel
theorem d_lcha_2 : decode jdk_43_method_2_code 2 = .ok (.arraylength, 1) := by decide +kernel
theorem d_lcha_3 : decode jdk_43_method_2_code 3 = .ok (.invokestatic 9, 3) := by decide +kernel
theorem d_lcha_6 : decode jdk_43_method_2_code 6 = .ok (.aload_n 0, 1) := by decide +kernel
theorem d_lcha_7 : decode jdk_43_method_2_code 7 = .ok (.iload_n 1, 1) := by decide +kernel
theorem d_lcha_8 : decode jdk_43_method_2_code 8 = .ok (.baload, 1) := by decide +kernel
theorem d_lcha_9 : decode jdk_43_method_2_code 9 = .ok (.sipush 255, 3) := by decide +kernel
theorem d_lcha_12 : decode jdk_43_method_2_code 12 = .ok (.iand, 1) := by decide +kernel
theorem d_lcha_13 : decode jdk_43_method_2_code 13 = .ok (.i2c, 1) := by decide +kernel
theorem d_lcha_14 : decode jdk_43_method_2_code 14 = .ok (.ireturn, 1) := by decide +kernel
theorem d_cenc_0 : decode jdk_43_method_3_code 0 = .ok (.iload_n 0, 1) := by decide +kernel
theorem d_cenc_1 : decode jdk_43_method_3_code 1 = .ok (.sipush 255, 3) := by decide +kernel
theorem d_cenc_4 : decode jdk_43_method_3_code 4 = .ok (.if_icmp .gt 7, 3) := by decide +kernel
theorem d_cenc_7 : decode jdk_43_method_3_code 7 = .ok (.iconst 1, 1) := by decide +kernel
theorem d_cenc_8 : decode jdk_43_method_3_code 8 = .ok (.goto 4, 3) := by decide +kernel
theorem d_cenc_12 : decode jdk_43_method_3_code 12 = .ok (.ireturn, 1) := by decide +kernel
theorem d_tob_0 : decode jdk_43_method_46_code 0 = .ok (.iconst 1, 1) := by decide +kernel
theorem d_tob_1 : decode jdk_43_method_46_code 1 = .ok (.newarray .byte, 2) := by decide +kernel
theorem d_tob_3 : decode jdk_43_method_46_code 3 = .ok (.dup, 1) := by decide +kernel
theorem d_tob_4 : decode jdk_43_method_46_code 4 = .ok (.iconst 0, 1) := by decide +kernel
theorem d_tob_5 : decode jdk_43_method_46_code 5 = .ok (.iload_n 0, 1) := by decide +kernel
theorem d_tob_6 : decode jdk_43_method_46_code 6 = .ok (.i2b, 1) := by decide +kernel
theorem d_tob_7 : decode jdk_43_method_46_code 7 = .ok (.bastore, 1) := by decide +kernel
theorem d_tob_8 : decode jdk_43_method_46_code 8 = .ok (.areturn, 1) := by decide +kernel
theorem d_nlen_0 : decode jdk_48_method_27_code 0 = .ok (.iload_n 0, 1) := by decide +kernel
theorem d_nlen_1 : decode jdk_48_method_27_code 1 = .ok (.iload_n 1, 1) := by decide +kernel
theorem d_nlen_2 : decode jdk_48_method_27_code 2 = .ok (.iload_n 2, 1) := by decide +kernel
theorem d_nlen_3 : decode jdk_48_method_27_code 3 = .ok (.invokestatic 194, 3) := by decide +kernel
theorem d_nlen_6 : decode jdk_48_method_27_code 6 = .ok (.iadd, 1) := by decide +kernel
theorem d_nlen_7 : decode jdk_48_method_27_code 7 = .ok (.istore_n 3, 1) := by decide +kernel
theorem d_nlen_8 : decode jdk_48_method_27_code 8 = .ok (.iconst 0, 1) := by decide +kernel
theorem d_nlen_9 : decode jdk_48_method_27_code 9 = .ok (.iload_n 3, 1) := by decide +kernel
theorem d_nlen_10 : decode jdk_48_method_27_code 10 = .ok (.if_icmp .ge 11, 3) := by decide +kernel
theorem d_nlen_13 : decode jdk_48_method_27_code 13 = .ok (.iload_n 3, 1) := by decide +kernel
theorem d_nlen_14 : decode jdk_48_method_27_code 14 = .ok (.ldc 200, 2) := by decide +kernel
theorem d_nlen_16 : decode jdk_48_method_27_code 16 = .ok (.if_icmp .gt 5, 3) := by decide +kernel
theorem d_nlen_19 : decode jdk_48_method_27_code 19 = .ok (.iload_n 3, 1) := by decide +kernel
theorem d_nlen_20 : decode jdk_48_method_27_code 20 = .ok (.ireturn, 1) := by decide +kernel
theorem d_cfal_0 : decode jdk_52_method_15_code 0 = .ok (.iload_n 1, 1) := by decide +kernel
theorem d_cfal_1 : decode jdk_52_method_15_code 1 = .ok (.aload_n 0, 1) := by decide +kernel
theorem d_cfal_2 : decode jdk_52_method_15_code 2 = .ok (.arraylength, 1) := by decide +kernel
theorem d_cfal_3 : decode jdk_52_method_15_code 3 = .ok (.isub, 1) := by decide +kernel
theorem d_cfal_4 : decode jdk_52_method_15_code 4 = .ok (.bipush 31, 2) := by decide +kernel
theorem d_cfal_6 : decode jdk_52_method_15_code 6 = .ok (.iushr, 1) := by decide +kernel
theorem d_cfal_7 : decode jdk_52_method_15_code 7 = .ok (.i2b, 1) := by decide +kernel
theorem d_cfal_8 : decode jdk_52_method_15_code 8 = .ok (.ireturn, 1) := by decide +kernel
theorem d_cmp3_0 : decode jdk_52_method_16_code 0 = .ok (.iload_n 2, 1) := by decide +kernel
theorem d_cmp3_1 : decode jdk_52_method_16_code 1 = .ok (.newarray .byte, 2) := by decide +kernel
theorem d_cmp3_3 : decode jdk_52_method_16_code 3 = .ok (.astore_n 3, 1) := by decide +kernel
theorem d_cmp3_4 : decode jdk_52_method_16_code 4 = .ok (.aload_n 0, 1) := by decide +kernel
theorem d_cmp3_5 : decode jdk_52_method_16_code 5 = .ok (.iload_n 1, 1) := by decide +kernel
theorem d_cmp3_6 : decode jdk_52_method_16_code 6 = .ok (.aload_n 3, 1) := by decide +kernel
theorem d_cmp3_7 : decode jdk_52_method_16_code 7 = .ok (.iconst 0, 1) := by decide +kernel
theorem d_cmp3_8 : decode jdk_52_method_16_code 8 = .ok (.iload_n 2, 1) := by decide +kernel
theorem d_cmp3_9 : decode jdk_52_method_16_code 9 = .ok (.invokestatic 115, 3) := by decide +kernel
theorem d_cmp3_12 : decode jdk_52_method_16_code 12 = .ok (.istore 4, 2) := by decide +kernel
theorem d_cmp3_14 : decode jdk_52_method_16_code 14 = .ok (.iload 4, 2) := by decide +kernel
theorem d_cmp3_16 : decode jdk_52_method_16_code 16 = .ok (.iload_n 2, 1) := by decide +kernel
theorem d_cmp3_17 : decode jdk_52_method_16_code 17 = .ok (.if_icmp .eq 40, 3) := by decide +kernel
theorem d_cmp3_57 : decode jdk_52_method_16_code 57 = .ok (.aload_n 3, 1) := by decide +kernel
theorem d_cmp3_58 : decode jdk_52_method_16_code 58 = .ok (.areturn, 1) := by decide +kernel
theorem d_cmp5_0 : decode jdk_52_method_21_code 0 = .ok (.iconst 0, 1) := by decide +kernel
theorem d_cmp5_1 : decode jdk_52_method_21_code 1 = .ok (.istore 5, 2) := by decide +kernel
theorem d_cmp5_3 : decode jdk_52_method_21_code 3 = .ok (.iload 5, 2) := by decide +kernel
theorem d_cmp5_5 : decode jdk_52_method_21_code 5 = .ok (.iload 4, 2) := by decide +kernel
theorem d_cmp5_7 : decode jdk_52_method_21_code 7 = .ok (.if_icmp .ge 37, 3) := by decide +kernel
theorem d_cmp5_10 : decode jdk_52_method_21_code 10 = .ok (.aload_n 0, 1) := by decide +kernel
theorem d_cmp5_11 : decode jdk_52_method_21_code 11 = .ok (.iload_n 1, 1) := by decide +kernel
theorem d_cmp5_12 : decode jdk_52_method_21_code 12 = .ok (.caload, 1) := by decide +kernel
theorem d_cmp5_13 : decode jdk_52_method_21_code 13 = .ok (.istore 6, 2) := by decide +kernel
theorem d_cmp5_15 : decode jdk_52_method_21_code 15 = .ok (.iload 6, 2) := by decide +kernel
theorem d_cmp5_17 : decode jdk_52_method_21_code 17 = .ok (.sipush 255, 3) := by decide +kernel
theorem d_cmp5_20 : decode jdk_52_method_21_code 20 = .ok (.if_icmp .le 6, 3) := by decide +kernel
theorem d_cmp5_26 : decode jdk_52_method_21_code 26 = .ok (.aload_n 2, 1) := by decide +kernel
theorem d_cmp5_27 : decode jdk_52_method_21_code 27 = .ok (.iload_n 3, 1) := by decide +kernel
theorem d_cmp5_28 : decode jdk_52_method_21_code 28 = .ok (.iload 6, 2) := by decide +kernel
theorem d_cmp5_30 : decode jdk_52_method_21_code 30 = .ok (.i2b, 1) := by decide +kernel
theorem d_cmp5_31 : decode jdk_52_method_21_code 31 = .ok (.bastore, 1) := by decide +kernel
theorem d_cmp5_32 : decode jdk_52_method_21_code 32 = .ok (.iinc 1 1, 3) := by decide +kernel
theorem d_cmp5_35 : decode jdk_52_method_21_code 35 = .ok (.iinc 3 1, 3) := by decide +kernel
theorem d_cmp5_38 : decode jdk_52_method_21_code 38 = .ok (.iinc 5 1, 3) := by decide +kernel
theorem d_cmp5_41 : decode jdk_52_method_21_code 41 = .ok (.goto (-38), 3) := by decide +kernel
theorem d_cmp5_44 : decode jdk_52_method_21_code 44 = .ok (.iload 4, 2) := by decide +kernel
theorem d_cmp5_46 : decode jdk_52_method_21_code 46 = .ok (.ireturn, 1) := by decide +kernel
theorem d_xini_0 : decode jdk_59_method_2_code 0 = .ok (.aload_n 0, 1) := by decide +kernel
theorem d_xini_1 : decode jdk_59_method_2_code 1 = .ok (.aload_n 1, 1) := by decide +kernel
theorem d_xini_2 : decode jdk_59_method_2_code 2 = .ok (.invokespecial 7, 3) := by decide +kernel
theorem d_xini_5 : decode jdk_59_method_2_code 5 = .ok (.return_, 1) := by decide +kernel
theorem d_cpo_0 : decode jdk_65_method_121_code 0 = .ok (.iload_n 1, 1) := by decide +kernel
theorem d_cpo_1 : decode jdk_65_method_121_code 1 = .ok (.aload_n 0, 1) := by decide +kernel
theorem d_cpo_2 : decode jdk_65_method_121_code 2 = .ok (.arraylength, 1) := by decide +kernel
theorem d_cpo_3 : decode jdk_65_method_121_code 3 = .ok (.if_icmp .ne 11, 3) := by decide +kernel
theorem d_cpo_14 : decode jdk_65_method_121_code 14 = .ok (.iload_n 1, 1) := by decide +kernel
theorem d_cpo_15 : decode jdk_65_method_121_code 15 = .ok (.newarray .byte, 2) := by decide +kernel
theorem d_cpo_17 : decode jdk_65_method_121_code 17 = .ok (.astore_n 2, 1) := by decide +kernel
theorem d_cpo_18 : decode jdk_65_method_121_code 18 = .ok (.aload_n 0, 1) := by decide +kernel
theorem d_cpo_19 : decode jdk_65_method_121_code 19 = .ok (.iconst 0, 1) := by decide +kernel
theorem d_cpo_20 : decode jdk_65_method_121_code 20 = .ok (.aload_n 2, 1) := by decide +kernel
theorem d_cpo_21 : decode jdk_65_method_121_code 21 = .ok (.iconst 0, 1) := by decide +kernel
theorem d_cpo_22 : decode jdk_65_method_121_code 22 = .ok (.aload_n 0, 1) := by decide +kernel
theorem d_cpo_23 : decode jdk_65_method_121_code 23 = .ok (.arraylength, 1) := by decide +kernel
theorem d_cpo_24 : decode jdk_65_method_121_code 24 = .ok (.iload_n 1, 1) := by decide +kernel
theorem d_cpo_25 : decode jdk_65_method_121_code 25 = .ok (.invokestatic 304, 3) := by decide +kernel
theorem d_cpo_28 : decode jdk_65_method_121_code 28 = .ok (.invokestatic 150, 3) := by decide +kernel
theorem d_cpo_31 : decode jdk_65_method_121_code 31 = .ok (.aload_n 2, 1) := by decide +kernel
theorem d_cpo_32 : decode jdk_65_method_121_code 32 = .ok (.areturn, 1) := by decide +kernel
theorem d_ckl_0 : decode jdk_65_method_131_code 0 = .ok (.iload_n 1, 1) := by decide +kernel
theorem d_ckl_1 : decode jdk_65_method_131_code 1 = .ok (.iload_n 0, 1) := by decide +kernel
theorem d_ckl_2 : decode jdk_65_method_131_code 2 = .ok (.if_icmp .ge 35, 3) := by decide +kernel
theorem d_ckl_37 : decode jdk_65_method_131_code 37 = .ok (.return_, 1) := by decide +kernel
theorem d_cor_0 : decode jdk_65_method_132_code 0 = .ok (.iload_n 1, 1) := by decide +kernel
theorem d_cor_1 : decode jdk_65_method_132_code 1 = .ok (.ifCond .ne 9, 3) := by decide +kernel
theorem d_cor_4 : decode jdk_65_method_132_code 4 = .ok (.iload_n 2, 1) := by decide +kernel
theorem d_cor_5 : decode jdk_65_method_132_code 5 = .ok (.aload_n 0, 1) := by decide +kernel
theorem d_cor_6 : decode jdk_65_method_132_code 6 = .ok (.arraylength, 1) := by decide +kernel
theorem d_cor_7 : decode jdk_65_method_132_code 7 = .ok (.if_icmp .eq 10, 3) := by decide +kernel
theorem d_cor_10 : decode jdk_65_method_132_code 10 = .ok (.aload_n 0, 1) := by decide +kernel
theorem d_cor_11 : decode jdk_65_method_132_code 11 = .ok (.iload_n 1, 1) := by decide +kernel
theorem d_cor_12 : decode jdk_65_method_132_code 12 = .ok (.iload_n 2, 1) := by decide +kernel
theorem d_cor_13 : decode jdk_65_method_132_code 13 = .ok (.invokestatic 339, 3) := by decide +kernel
theorem d_cor_16 : decode jdk_65_method_132_code 16 = .ok (.areturn, 1) := by decide +kernel
theorem d_cor0_0 : decode jdk_65_method_132_code 0 = .ok (.iload_n 1, 1) := by decide +kernel
theorem d_cor0_1 : decode jdk_65_method_132_code 1 = .ok (.ifCond .ne 9, 3) := by decide +kernel
theorem d_cor0_4 : decode jdk_65_method_132_code 4 = .ok (.iload_n 2, 1) := by decide +kernel
theorem d_cor0_5 : decode jdk_65_method_132_code 5 = .ok (.aload_n 0, 1) := by decide +kernel
theorem d_cor0_6 : decode jdk_65_method_132_code 6 = .ok (.arraylength, 1) := by decide +kernel
theorem d_cor0_7 : decode jdk_65_method_132_code 7 = .ok (.if_icmp .eq 10, 3) := by decide +kernel
theorem d_cor0_17 : decode jdk_65_method_132_code 17 = .ok (.aload_n 0, 1) := by decide +kernel
theorem d_cor0_18 : decode jdk_65_method_132_code 18 = .ok (.invokevirtual 310, 3) := by decide +kernel
theorem d_cor0_21 : decode jdk_65_method_132_code 21 = .ok (.checkcast 311, 3) := by decide +kernel
theorem d_cor0_24 : decode jdk_65_method_132_code 24 = .ok (.areturn, 1) := by decide +kernel
theorem d_corb_0 : decode jdk_65_method_133_code 0 = .ok (.iload_n 1, 1) := by decide +kernel
theorem d_corb_1 : decode jdk_65_method_133_code 1 = .ok (.iload_n 2, 1) := by decide +kernel
theorem d_corb_2 : decode jdk_65_method_133_code 2 = .ok (.invokestatic 343, 3) := by decide +kernel
theorem d_corb_5 : decode jdk_65_method_133_code 5 = .ok (.iload_n 2, 1) := by decide +kernel
theorem d_corb_6 : decode jdk_65_method_133_code 6 = .ok (.iload_n 1, 1) := by decide +kernel
theorem d_corb_7 : decode jdk_65_method_133_code 7 = .ok (.isub, 1) := by decide +kernel
theorem d_corb_8 : decode jdk_65_method_133_code 8 = .ok (.istore_n 3, 1) := by decide +kernel
theorem d_corb_9 : decode jdk_65_method_133_code 9 = .ok (.iload_n 3, 1) := by decide +kernel
theorem d_corb_10 : decode jdk_65_method_133_code 10 = .ok (.newarray .byte, 2) := by decide +kernel
theorem d_corb_12 : decode jdk_65_method_133_code 12 = .ok (.astore 4, 2) := by decide +kernel
theorem d_corb_14 : decode jdk_65_method_133_code 14 = .ok (.aload_n 0, 1) := by decide +kernel
theorem d_corb_15 : decode jdk_65_method_133_code 15 = .ok (.iload_n 1, 1) := by decide +kernel
theorem d_corb_16 : decode jdk_65_method_133_code 16 = .ok (.aload 4, 2) := by decide +kernel
theorem d_corb_18 : decode jdk_65_method_133_code 18 = .ok (.iconst 0, 1) := by decide +kernel
theorem d_corb_19 : decode jdk_65_method_133_code 19 = .ok (.aload_n 0, 1) := by decide +kernel
theorem d_corb_20 : decode jdk_65_method_133_code 20 = .ok (.arraylength, 1) := by decide +kernel
theorem d_corb_21 : decode jdk_65_method_133_code 21 = .ok (.iload_n 1, 1) := by decide +kernel
theorem d_corb_22 : decode jdk_65_method_133_code 22 = .ok (.isub, 1) := by decide +kernel
theorem d_corb_23 : decode jdk_65_method_133_code 23 = .ok (.iload_n 3, 1) := by decide +kernel
theorem d_corb_24 : decode jdk_65_method_133_code 24 = .ok (.invokestatic 304, 3) := by decide +kernel
theorem d_corb_27 : decode jdk_65_method_133_code 27 = .ok (.invokestatic 150, 3) := by decide +kernel
theorem d_corb_30 : decode jdk_65_method_133_code 30 = .ok (.aload 4, 2) := by decide +kernel
theorem d_corb_32 : decode jdk_65_method_133_code 32 = .ok (.areturn, 1) := by decide +kernel
theorem d_sbin_0 : decode jdk_67_method_1_code 0 = .ok (.aload_n 0, 1) := by decide +kernel
theorem d_sbin_1 : decode jdk_67_method_1_code 1 = .ok (.bipush 16, 2) := by decide +kernel
theorem d_sbin_3 : decode jdk_67_method_1_code 3 = .ok (.invokespecial 1, 3) := by decide +kernel
theorem d_sbin_6 : decode jdk_67_method_1_code 6 = .ok (.return_, 1) := by decide +kernel
theorem d_tst0_0 : decode jdk_67_method_42_code 0 = .ok (.new 18, 3) := by decide +kernel
theorem d_tst0_3 : decode jdk_67_method_42_code 3 = .ok (.dup, 1) := by decide +kernel
theorem d_tst0_4 : decode jdk_67_method_42_code 4 = .ok (.aload_n 0, 1) := by decide +kernel
theorem d_tst0_5 : decode jdk_67_method_42_code 5 = .ok (.invokespecial 137, 3) := by decide +kernel
theorem d_tst0_8 : decode jdk_67_method_42_code 8 = .ok (.areturn, 1) := by decide +kernel
theorem d_tstr_0 : decode jdk_67_method_42_code 0 = .ok (.new 18, 3) := by decide +kernel
theorem d_tstr_3 : decode jdk_67_method_42_code 3 = .ok (.dup, 1) := by decide +kernel
theorem d_tstr_4 : decode jdk_67_method_42_code 4 = .ok (.aload_n 0, 1) := by decide +kernel
theorem d_tstr_5 : decode jdk_67_method_42_code 5 = .ok (.invokespecial 137, 3) := by decide +kernel
theorem d_tstr_8 : decode jdk_67_method_42_code 8 = .ok (.areturn, 1) := by decide +kernel
theorem d_sapg_0 : decode jdk_67_method_7_code 0 = .ok (.aload_n 0, 1) := by decide +kernel
theorem d_sapg_1 : decode jdk_67_method_7_code 1 = .ok (.aload_n 1, 1) := by decide +kernel
theorem d_sapg_2 : decode jdk_67_method_7_code 2 = .ok (.invokespecial 29, 3) := by decide +kernel
theorem d_sapg_5 : decode jdk_67_method_7_code 5 = .ok (.pop, 1) := by decide +kernel
theorem d_sapg_6 : decode jdk_67_method_7_code 6 = .ok (.aload_n 0, 1) := by decide +kernel
theorem d_sapg_7 : decode jdk_67_method_7_code 7 = .ok (.areturn, 1) := by decide +kernel
theorem d_sapp_0 : decode jdk_67_method_7_code 0 = .ok (.aload_n 0, 1) := by decide +kernel
theorem d_sapp_1 : decode jdk_67_method_7_code 1 = .ok (.aload_n 1, 1) := by decide +kernel
theorem d_sapp_2 : decode jdk_67_method_7_code 2 = .ok (.invokespecial 29, 3) := by decide +kernel
theorem d_sapp_5 : decode jdk_67_method_7_code 5 = .ok (.pop, 1) := by decide +kernel
theorem d_sapp_6 : decode jdk_67_method_7_code 6 = .ok (.aload_n 0, 1) := by decide +kernel
theorem d_sapp_7 : decode jdk_67_method_7_code 7 = .ok (.areturn, 1) := by decide +kernel
theorem d_blen_0 : decode jdk_67_method_93_code 0 = .ok (.aload_n 0, 1) := by decide +kernel
theorem d_blen_1 : decode jdk_67_method_93_code 1 = .ok (.invokespecial 343, 3) := by decide +kernel
theorem d_blen_4 : decode jdk_67_method_93_code 4 = .ok (.ireturn, 1) := by decide +kernel
theorem d_ncap_0 : decode jdk_68_method_10_code 0 = .ok (.aload_n 0, 1) := by decide +kernel
theorem d_ncap_1 : decode jdk_68_method_10_code 1 = .ok (.getfield 15, 3) := by decide +kernel
theorem d_ncap_4 : decode jdk_68_method_10_code 4 = .ok (.arraylength, 1) := by decide +kernel
theorem d_ncap_5 : decode jdk_68_method_10_code 5 = .ok (.istore_n 2, 1) := by decide +kernel
theorem d_ncap_6 : decode jdk_68_method_10_code 6 = .ok (.iload_n 1, 1) := by decide +kernel
theorem d_ncap_7 : decode jdk_68_method_10_code 7 = .ok (.aload_n 0, 1) := by decide +kernel
theorem d_ncap_8 : decode jdk_68_method_10_code 8 = .ok (.getfield 22, 3) := by decide +kernel
theorem d_ncap_11 : decode jdk_68_method_10_code 11 = .ok (.ishl, 1) := by decide +kernel
theorem d_ncap_12 : decode jdk_68_method_10_code 12 = .ok (.istore_n 3, 1) := by decide +kernel
theorem d_ncap_13 : decode jdk_68_method_10_code 13 = .ok (.iload_n 3, 1) := by decide +kernel
theorem d_ncap_14 : decode jdk_68_method_10_code 14 = .ok (.iload_n 2, 1) := by decide +kernel
theorem d_ncap_15 : decode jdk_68_method_10_code 15 = .ok (.isub, 1) := by decide +kernel
theorem d_ncap_16 : decode jdk_68_method_10_code 16 = .ok (.istore 4, 2) := by decide +kernel
theorem d_ncap_18 : decode jdk_68_method_10_code 18 = .ok (.iload_n 2, 1) := by decide +kernel
theorem d_ncap_19 : decode jdk_68_method_10_code 19 = .ok (.iload 4, 2) := by decide +kernel
theorem d_ncap_21 : decode jdk_68_method_10_code 21 = .ok (.iload_n 2, 1) := by decide +kernel
theorem d_ncap_22 : decode jdk_68_method_10_code 22 = .ok (.iconst 2, 1) := by decide +kernel
theorem d_ncap_23 : decode jdk_68_method_10_code 23 = .ok (.aload_n 0, 1) := by decide +kernel
theorem d_ncap_24 : decode jdk_68_method_10_code 24 = .ok (.getfield 22, 3) := by decide +kernel
theorem d_ncap_27 : decode jdk_68_method_10_code 27 = .ok (.ishl, 1) := by decide +kernel
theorem d_ncap_28 : decode jdk_68_method_10_code 28 = .ok (.iadd, 1) := by decide +kernel
theorem d_ncap_29 : decode jdk_68_method_10_code 29 = .ok (.invokestatic 114, 3) := by decide +kernel
theorem d_ncap_32 : decode jdk_68_method_10_code 32 = .ok (.istore 5, 2) := by decide +kernel
theorem d_ncap_34 : decode jdk_68_method_10_code 34 = .ok (.iload 5, 2) := by decide +kernel
theorem d_ncap_36 : decode jdk_68_method_10_code 36 = .ok (.ldc 39, 2) := by decide +kernel
theorem d_ncap_38 : decode jdk_68_method_10_code 38 = .ok (.if_icmp .ne 13, 3) := by decide +kernel
theorem d_ncap_51 : decode jdk_68_method_10_code 51 = .ok (.iload 5, 2) := by decide +kernel
theorem d_ncap_53 : decode jdk_68_method_10_code 53 = .ok (.aload_n 0, 1) := by decide +kernel
theorem d_ncap_54 : decode jdk_68_method_10_code 54 = .ok (.getfield 22, 3) := by decide +kernel
theorem d_ncap_57 : decode jdk_68_method_10_code 57 = .ok (.ishr, 1) := by decide +kernel
theorem d_ncap_58 : decode jdk_68_method_10_code 58 = .ok (.ireturn, 1) := by decide +kernel
theorem d_aapg_0 : decode jdk_68_method_22_code 0 = .ok (.aload_n 1, 1) := by decide +kernel
theorem d_aapg_1 : decode jdk_68_method_22_code 1 = .ok (.ifnonnull 8, 3) := by decide +kernel
theorem d_aapg_9 : decode jdk_68_method_22_code 9 = .ok (.aload_n 1, 1) := by decide +kernel
theorem d_aapg_10 : decode jdk_68_method_22_code 10 = .ok (.invokevirtual 32, 3) := by decide +kernel
theorem d_aapg_13 : decode jdk_68_method_22_code 13 = .ok (.istore_n 2, 1) := by decide +kernel
theorem d_aapg_14 : decode jdk_68_method_22_code 14 = .ok (.aload_n 0, 1) := by decide +kernel
theorem d_aapg_15 : decode jdk_68_method_22_code 15 = .ok (.aload_n 0, 1) := by decide +kernel
theorem d_aapg_16 : decode jdk_68_method_22_code 16 = .ok (.getfield 79, 3) := by decide +kernel
theorem d_aapg_19 : decode jdk_68_method_22_code 19 = .ok (.iload_n 2, 1) := by decide +kernel
theorem d_aapg_20 : decode jdk_68_method_22_code 20 = .ok (.iadd, 1) := by decide +kernel
theorem d_aapg_21 : decode jdk_68_method_22_code 21 = .ok (.invokevirtual 100, 3) := by decide +kernel
theorem d_aapg_24 : decode jdk_68_method_22_code 24 = .ok (.aload_n 0, 1) := by decide +kernel
theorem d_aapg_25 : decode jdk_68_method_22_code 25 = .ok (.aload_n 0, 1) := by decide +kernel
theorem d_aapg_26 : decode jdk_68_method_22_code 26 = .ok (.getfield 79, 3) := by decide +kernel
theorem d_aapg_29 : decode jdk_68_method_22_code 29 = .ok (.aload_n 1, 1) := by decide +kernel
theorem d_aapg_30 : decode jdk_68_method_22_code 30 = .ok (.invokevirtual 208, 3) := by decide +kernel
theorem d_aapg_33 : decode jdk_68_method_22_code 33 = .ok (.aload_n 0, 1) := by decide +kernel
theorem d_aapg_34 : decode jdk_68_method_22_code 34 = .ok (.dup, 1) := by decide +kernel
theorem d_aapg_35 : decode jdk_68_method_22_code 35 = .ok (.getfield 79, 3) := by decide +kernel
theorem d_aapg_38 : decode jdk_68_method_22_code 38 = .ok (.iload_n 2, 1) := by decide +kernel
theorem d_aapg_39 : decode jdk_68_method_22_code 39 = .ok (.iadd, 1) := by decide +kernel
theorem d_aapg_40 : decode jdk_68_method_22_code 40 = .ok (.putfield 79, 3) := by decide +kernel
theorem d_aapg_43 : decode jdk_68_method_22_code 43 = .ok (.aload_n 0, 1) := by decide +kernel
theorem d_aapg_44 : decode jdk_68_method_22_code 44 = .ok (.areturn, 1) := by decide +kernel
theorem d_aapp_0 : decode jdk_68_method_22_code 0 = .ok (.aload_n 1, 1) := by decide +kernel
theorem d_aapp_1 : decode jdk_68_method_22_code 1 = .ok (.ifnonnull 8, 3) := by decide +kernel
theorem d_aapp_9 : decode jdk_68_method_22_code 9 = .ok (.aload_n 1, 1) := by decide +kernel
theorem d_aapp_10 : decode jdk_68_method_22_code 10 = .ok (.invokevirtual 32, 3) := by decide +kernel
theorem d_aapp_13 : decode jdk_68_method_22_code 13 = .ok (.istore_n 2, 1) := by decide +kernel
theorem d_aapp_14 : decode jdk_68_method_22_code 14 = .ok (.aload_n 0, 1) := by decide +kernel
theorem d_aapp_15 : decode jdk_68_method_22_code 15 = .ok (.aload_n 0, 1) := by decide +kernel
theorem d_aapp_16 : decode jdk_68_method_22_code 16 = .ok (.getfield 79, 3) := by decide +kernel
theorem d_aapp_19 : decode jdk_68_method_22_code 19 = .ok (.iload_n 2, 1) := by decide +kernel
theorem d_aapp_20 : decode jdk_68_method_22_code 20 = .ok (.iadd, 1) := by decide +kernel
theorem d_aapp_21 : decode jdk_68_method_22_code 21 = .ok (.invokevirtual 100, 3) := by decide +kernel
theorem d_aapp_24 : decode jdk_68_method_22_code 24 = .ok (.aload_n 0, 1) := by decide +kernel
theorem d_aapp_25 : decode jdk_68_method_22_code 25 = .ok (.aload_n 0, 1) := by decide +kernel
theorem d_aapp_26 : decode jdk_68_method_22_code 26 = .ok (.getfield 79, 3) := by decide +kernel
theorem d_aapp_29 : decode jdk_68_method_22_code 29 = .ok (.aload_n 1, 1) := by decide +kernel
theorem d_aapp_30 : decode jdk_68_method_22_code 30 = .ok (.invokevirtual 208, 3) := by decide +kernel
theorem d_aapp_33 : decode jdk_68_method_22_code 33 = .ok (.aload_n 0, 1) := by decide +kernel
theorem d_aapp_34 : decode jdk_68_method_22_code 34 = .ok (.dup, 1) := by decide +kernel
theorem d_aapp_35 : decode jdk_68_method_22_code 35 = .ok (.getfield 79, 3) := by decide +kernel
theorem d_aapp_38 : decode jdk_68_method_22_code 38 = .ok (.iload_n 2, 1) := by decide +kernel
theorem d_aapp_39 : decode jdk_68_method_22_code 39 = .ok (.iadd, 1) := by decide +kernel
theorem d_aapp_40 : decode jdk_68_method_22_code 40 = .ok (.putfield 79, 3) := by decide +kernel
theorem d_aapp_43 : decode jdk_68_method_22_code 43 = .ok (.aload_n 0, 1) := by decide +kernel
theorem d_aapp_44 : decode jdk_68_method_22_code 44 = .ok (.areturn, 1) := by decide +kernel
theorem d_abin_0 : decode jdk_68_method_2_code 0 = .ok (.aload_n 0, 1) := by decide +kernel
theorem d_abin_1 : decode jdk_68_method_2_code 1 = .ok (.invokespecial 3, 3) := by decide +kernel
theorem d_abin_4 : decode jdk_68_method_2_code 4 = .ok (.getstatic 18, 3) := by decide +kernel
theorem d_abin_7 : decode jdk_68_method_2_code 7 = .ok (.ifCond .eq 18, 3) := by decide +kernel
theorem d_abin_10 : decode jdk_68_method_2_code 10 = .ok (.aload_n 0, 1) := by decide +kernel
theorem d_abin_11 : decode jdk_68_method_2_code 11 = .ok (.iload_n 1, 1) := by decide +kernel
theorem d_abin_12 : decode jdk_68_method_2_code 12 = .ok (.newarray .byte, 2) := by decide +kernel
theorem d_abin_14 : decode jdk_68_method_2_code 14 = .ok (.putfield 15, 3) := by decide +kernel
theorem d_abin_17 : decode jdk_68_method_2_code 17 = .ok (.aload_n 0, 1) := by decide +kernel
theorem d_abin_18 : decode jdk_68_method_2_code 18 = .ok (.iconst 0, 1) := by decide +kernel
theorem d_abin_19 : decode jdk_68_method_2_code 19 = .ok (.putfield 22, 3) := by decide +kernel
theorem d_abin_22 : decode jdk_68_method_2_code 22 = .ok (.goto 16, 3) := by decide +kernel
theorem d_abin_38 : decode jdk_68_method_2_code 38 = .ok (.return_, 1) := by decide +kernel
theorem d_gval_0 : decode jdk_68_method_64_code 0 = .ok (.aload_n 0, 1) := by decide +kernel
theorem d_gval_1 : decode jdk_68_method_64_code 1 = .ok (.getfield 15, 3) := by decide +kernel
theorem d_gval_4 : decode jdk_68_method_64_code 4 = .ok (.areturn, 1) := by decide +kernel
theorem d_ail1_0 : decode jdk_68_method_68_code 0 = .ok (.getstatic 18, 3) := by decide +kernel
theorem d_ail1_3 : decode jdk_68_method_68_code 3 = .ok (.ifCond .eq 14, 3) := by decide +kernel
theorem d_ail1_6 : decode jdk_68_method_68_code 6 = .ok (.aload_n 0, 1) := by decide +kernel
theorem d_ail1_7 : decode jdk_68_method_68_code 7 = .ok (.getfield 22, 3) := by decide +kernel
theorem d_ail1_10 : decode jdk_68_method_68_code 10 = .ok (.ifCond .ne 7, 3) := by decide +kernel
theorem d_ail1_13 : decode jdk_68_method_68_code 13 = .ok (.iconst 1, 1) := by decide +kernel
theorem d_ail1_14 : decode jdk_68_method_68_code 14 = .ok (.goto 4, 3) := by decide +kernel
theorem d_ail1_18 : decode jdk_68_method_68_code 18 = .ok (.ireturn, 1) := by decide +kernel
theorem d_alen_0 : decode jdk_68_method_6_code 0 = .ok (.aload_n 0, 1) := by decide +kernel
theorem d_alen_1 : decode jdk_68_method_6_code 1 = .ok (.getfield 79, 3) := by decide +kernel
theorem d_alen_4 : decode jdk_68_method_6_code 4 = .ok (.ireturn, 1) := by decide +kernel
theorem d_infl_0 : decode jdk_68_method_71_code 0 = .ok (.getstatic 18, 3) := by decide +kernel
theorem d_infl_3 : decode jdk_68_method_71_code 3 = .ok (.ifCond .eq 18, 3) := by decide +kernel
theorem d_infl_6 : decode jdk_68_method_71_code 6 = .ok (.aload_n 0, 1) := by decide +kernel
theorem d_infl_7 : decode jdk_68_method_71_code 7 = .ok (.getfield 22, 3) := by decide +kernel
theorem d_infl_10 : decode jdk_68_method_71_code 10 = .ok (.aload_n 1, 1) := by decide +kernel
theorem d_infl_11 : decode jdk_68_method_71_code 11 = .ok (.invokevirtual 40, 3) := by decide +kernel
theorem d_infl_14 : decode jdk_68_method_71_code 14 = .ok (.if_icmp .eq 7, 3) := by decide +kernel
theorem d_infl_21 : decode jdk_68_method_71_code 21 = .ok (.return_, 1) := by decide +kernel
theorem d_psta_0 : decode jdk_68_method_73_code 0 = .ok (.aload_n 0, 1) := by decide +kernel
theorem d_psta_1 : decode jdk_68_method_73_code 1 = .ok (.aload_n 2, 1) := by decide +kernel
theorem d_psta_2 : decode jdk_68_method_73_code 2 = .ok (.invokevirtual 397, 3) := by decide +kernel
theorem d_psta_5 : decode jdk_68_method_73_code 5 = .ok (.aload_n 2, 1) := by decide +kernel
theorem d_psta_6 : decode jdk_68_method_73_code 6 = .ok (.aload_n 0, 1) := by decide +kernel
theorem d_psta_7 : decode jdk_68_method_73_code 7 = .ok (.getfield 15, 3) := by decide +kernel
theorem d_psta_10 : decode jdk_68_method_73_code 10 = .ok (.iload_n 1, 1) := by decide +kernel
theorem d_psta_11 : decode jdk_68_method_73_code 11 = .ok (.aload_n 0, 1) := by decide +kernel
theorem d_psta_12 : decode jdk_68_method_73_code 12 = .ok (.getfield 22, 3) := by decide +kernel
theorem d_psta_15 : decode jdk_68_method_73_code 15 = .ok (.invokevirtual 399, 3) := by decide +kernel
theorem d_psta_18 : decode jdk_68_method_73_code 18 = .ok (.return_, 1) := by decide +kernel
theorem d_ecag_0 : decode jdk_68_method_9_code 0 = .ok (.aload_n 0, 1) := by decide +kernel
theorem d_ecag_1 : decode jdk_68_method_9_code 1 = .ok (.getfield 15, 3) := by decide +kernel
theorem d_ecag_4 : decode jdk_68_method_9_code 4 = .ok (.arraylength, 1) := by decide +kernel
theorem d_ecag_5 : decode jdk_68_method_9_code 5 = .ok (.aload_n 0, 1) := by decide +kernel
theorem d_ecag_6 : decode jdk_68_method_9_code 6 = .ok (.getfield 22, 3) := by decide +kernel
theorem d_ecag_9 : decode jdk_68_method_9_code 9 = .ok (.ishr, 1) := by decide +kernel
theorem d_ecag_10 : decode jdk_68_method_9_code 10 = .ok (.istore_n 2, 1) := by decide +kernel
theorem d_ecag_11 : decode jdk_68_method_9_code 11 = .ok (.iload_n 1, 1) := by decide +kernel
theorem d_ecag_12 : decode jdk_68_method_9_code 12 = .ok (.iload_n 2, 1) := by decide +kernel
theorem d_ecag_13 : decode jdk_68_method_9_code 13 = .ok (.isub, 1) := by decide +kernel
theorem d_ecag_14 : decode jdk_68_method_9_code 14 = .ok (.ifCond .le 24, 3) := by decide +kernel
theorem d_ecag_17 : decode jdk_68_method_9_code 17 = .ok (.aload_n 0, 1) := by decide +kernel
theorem d_ecag_18 : decode jdk_68_method_9_code 18 = .ok (.aload_n 0, 1) := by decide +kernel
theorem d_ecag_19 : decode jdk_68_method_9_code 19 = .ok (.getfield 15, 3) := by decide +kernel
theorem d_ecag_22 : decode jdk_68_method_9_code 22 = .ok (.aload_n 0, 1) := by decide +kernel
theorem d_ecag_23 : decode jdk_68_method_9_code 23 = .ok (.iload_n 1, 1) := by decide +kernel
theorem d_ecag_24 : decode jdk_68_method_9_code 24 = .ok (.invokevirtual 104, 3) := by decide +kernel
theorem d_ecag_27 : decode jdk_68_method_9_code 27 = .ok (.aload_n 0, 1) := by decide +kernel
theorem d_ecag_28 : decode jdk_68_method_9_code 28 = .ok (.getfield 22, 3) := by decide +kernel
theorem d_ecag_31 : decode jdk_68_method_9_code 31 = .ok (.ishl, 1) := by decide +kernel
theorem d_ecag_32 : decode jdk_68_method_9_code 32 = .ok (.invokestatic 108, 3) := by decide +kernel
theorem d_ecag_35 : decode jdk_68_method_9_code 35 = .ok (.putfield 15, 3) := by decide +kernel
theorem d_ecag_38 : decode jdk_68_method_9_code 38 = .ok (.return_, 1) := by decide +kernel
theorem d_ecap_0 : decode jdk_68_method_9_code 0 = .ok (.aload_n 0, 1) := by decide +kernel
theorem d_ecap_1 : decode jdk_68_method_9_code 1 = .ok (.getfield 15, 3) := by decide +kernel
theorem d_ecap_4 : decode jdk_68_method_9_code 4 = .ok (.arraylength, 1) := by decide +kernel
theorem d_ecap_5 : decode jdk_68_method_9_code 5 = .ok (.aload_n 0, 1) := by decide +kernel
theorem d_ecap_6 : decode jdk_68_method_9_code 6 = .ok (.getfield 22, 3) := by decide +kernel
theorem d_ecap_9 : decode jdk_68_method_9_code 9 = .ok (.ishr, 1) := by decide +kernel
theorem d_ecap_10 : decode jdk_68_method_9_code 10 = .ok (.istore_n 2, 1) := by decide +kernel
theorem d_ecap_11 : decode jdk_68_method_9_code 11 = .ok (.iload_n 1, 1) := by decide +kernel
theorem d_ecap_12 : decode jdk_68_method_9_code 12 = .ok (.iload_n 2, 1) := by decide +kernel
theorem d_ecap_13 : decode jdk_68_method_9_code 13 = .ok (.isub, 1) := by decide +kernel
theorem d_ecap_14 : decode jdk_68_method_9_code 14 = .ok (.ifCond .le 24, 3) := by decide +kernel
theorem d_ecap_38 : decode jdk_68_method_9_code 38 = .ok (.return_, 1) := by decide +kernel
theorem d_tini_0 : decode jdk_78_method_2_code 0 = .ok (.aload_n 0, 1) := by decide +kernel
theorem d_tini_1 : decode jdk_78_method_2_code 1 = .ok (.invokespecial 1, 3) := by decide +kernel
theorem d_tini_4 : decode jdk_78_method_2_code 4 = .ok (.aload_n 0, 1) := by decide +kernel
theorem d_tini_5 : decode jdk_78_method_2_code 5 = .ok (.aload_n 0, 1) := by decide +kernel
theorem d_tini_6 : decode jdk_78_method_2_code 6 = .ok (.putfield 7, 3) := by decide +kernel
theorem d_tini_9 : decode jdk_78_method_2_code 9 = .ok (.aload_n 0, 1) := by decide +kernel
theorem d_tini_10 : decode jdk_78_method_2_code 10 = .ok (.getstatic 13, 3) := by decide +kernel
theorem d_tini_13 : decode jdk_78_method_2_code 13 = .ok (.putfield 17, 3) := by decide +kernel
theorem d_tini_16 : decode jdk_78_method_2_code 16 = .ok (.aload_n 0, 1) := by decide +kernel
theorem d_tini_17 : decode jdk_78_method_2_code 17 = .ok (.getstatic 20, 3) := by decide +kernel
theorem d_tini_20 : decode jdk_78_method_2_code 20 = .ok (.putfield 24, 3) := by decide +kernel
theorem d_tini_23 : decode jdk_78_method_2_code 23 = .ok (.aload_n 0, 1) := by decide +kernel
theorem d_tini_24 : decode jdk_78_method_2_code 24 = .ok (.invokevirtual 27, 3) := by decide +kernel
theorem d_tini_27 : decode jdk_78_method_2_code 27 = .ok (.pop, 1) := by decide +kernel
theorem d_tini_28 : decode jdk_78_method_2_code 28 = .ok (.aload_n 0, 1) := by decide +kernel
theorem d_tini_29 : decode jdk_78_method_2_code 29 = .ok (.aload_n 1, 1) := by decide +kernel
theorem d_tini_30 : decode jdk_78_method_2_code 30 = .ok (.putfield 31, 3) := by decide +kernel
theorem d_tini_33 : decode jdk_78_method_2_code 33 = .ok (.return_, 1) := by decide +kernel
theorem d_gmsg_0 : decode jdk_78_method_6_code 0 = .ok (.aload_n 0, 1) := by decide +kernel
theorem d_gmsg_1 : decode jdk_78_method_6_code 1 = .ok (.getfield 31, 3) := by decide +kernel
theorem d_gmsg_4 : decode jdk_78_method_6_code 4 = .ok (.areturn, 1) := by decide +kernel
theorem d_pfok_0 : decode method_3_code 0 = .ok (.aload_n 0, 1) := by decide +kernel
theorem d_pfok_1 : decode method_3_code 1 = .ok (.iconst 0, 1) := by decide +kernel
theorem d_pfok_2 : decode method_3_code 2 = .ok (.invokevirtual 36, 3) := by decide +kernel
theorem d_pfok_5 : decode method_3_code 5 = .ok (.bipush 105, 2) := by decide +kernel
theorem d_pfok_7 : decode method_3_code 7 = .ok (.if_icmp .ne 156, 3) := by decide +kernel
theorem d_pfok_10 : decode method_3_code 10 = .ok (.aload_n 0, 1) := by decide +kernel
theorem d_pfok_11 : decode method_3_code 11 = .ok (.iconst 1, 1) := by decide +kernel
theorem d_pfok_12 : decode method_3_code 12 = .ok (.invokevirtual 36, 3) := by decide +kernel
theorem d_pfok_15 : decode method_3_code 15 = .ok (.bipush 110, 2) := by decide +kernel
theorem d_pfok_17 : decode method_3_code 17 = .ok (.if_icmp .ne 146, 3) := by decide +kernel
theorem d_pfok_20 : decode method_3_code 20 = .ok (.aload_n 0, 1) := by decide +kernel
theorem d_pfok_21 : decode method_3_code 21 = .ok (.iconst 2, 1) := by decide +kernel
theorem d_pfok_22 : decode method_3_code 22 = .ok (.invokevirtual 36, 3) := by decide +kernel
theorem d_pfok_25 : decode method_3_code 25 = .ok (.bipush 118, 2) := by decide +kernel
theorem d_pfok_27 : decode method_3_code 27 = .ok (.if_icmp .ne 136, 3) := by decide +kernel
theorem d_pfok_30 : decode method_3_code 30 = .ok (.aload_n 0, 1) := by decide +kernel
theorem d_pfok_31 : decode method_3_code 31 = .ok (.iconst 3, 1) := by decide +kernel
theorem d_pfok_32 : decode method_3_code 32 = .ok (.invokevirtual 36, 3) := by decide +kernel
theorem d_pfok_35 : decode method_3_code 35 = .ok (.bipush 97, 2) := by decide +kernel
theorem d_pfok_37 : decode method_3_code 37 = .ok (.if_icmp .ne 126, 3) := by decide +kernel
theorem d_pfok_40 : decode method_3_code 40 = .ok (.aload_n 0, 1) := by decide +kernel
theorem d_pfok_41 : decode method_3_code 41 = .ok (.iconst 4, 1) := by decide +kernel
theorem d_pfok_42 : decode method_3_code 42 = .ok (.invokevirtual 36, 3) := by decide +kernel
theorem d_pfok_45 : decode method_3_code 45 = .ok (.bipush 108, 2) := by decide +kernel
theorem d_pfok_47 : decode method_3_code 47 = .ok (.if_icmp .ne 116, 3) := by decide +kernel
theorem d_pfok_50 : decode method_3_code 50 = .ok (.aload_n 0, 1) := by decide +kernel
theorem d_pfok_51 : decode method_3_code 51 = .ok (.iconst 5, 1) := by decide +kernel
theorem d_pfok_52 : decode method_3_code 52 = .ok (.invokevirtual 36, 3) := by decide +kernel
theorem d_pfok_55 : decode method_3_code 55 = .ok (.bipush 105, 2) := by decide +kernel
theorem d_pfok_57 : decode method_3_code 57 = .ok (.if_icmp .ne 106, 3) := by decide +kernel
theorem d_pfok_60 : decode method_3_code 60 = .ok (.aload_n 0, 1) := by decide +kernel
theorem d_pfok_61 : decode method_3_code 61 = .ok (.bipush 6, 2) := by decide +kernel
theorem d_pfok_63 : decode method_3_code 63 = .ok (.invokevirtual 36, 3) := by decide +kernel
theorem d_pfok_66 : decode method_3_code 66 = .ok (.bipush 100, 2) := by decide +kernel
theorem d_pfok_68 : decode method_3_code 68 = .ok (.if_icmp .ne 95, 3) := by decide +kernel
theorem d_pfok_71 : decode method_3_code 71 = .ok (.aload_n 0, 1) := by decide +kernel
theorem d_pfok_72 : decode method_3_code 72 = .ok (.bipush 7, 2) := by decide +kernel
theorem d_pfok_74 : decode method_3_code 74 = .ok (.invokevirtual 36, 3) := by decide +kernel
theorem d_pfok_77 : decode method_3_code 77 = .ok (.bipush 32, 2) := by decide +kernel
theorem d_pfok_79 : decode method_3_code 79 = .ok (.if_icmp .ne 84, 3) := by decide +kernel
theorem d_pfok_82 : decode method_3_code 82 = .ok (.aload_n 0, 1) := by decide +kernel
theorem d_pfok_83 : decode method_3_code 83 = .ok (.bipush 8, 2) := by decide +kernel
theorem d_pfok_85 : decode method_3_code 85 = .ok (.invokevirtual 36, 3) := by decide +kernel
theorem d_pfok_88 : decode method_3_code 88 = .ok (.bipush 104, 2) := by decide +kernel
theorem d_pfok_90 : decode method_3_code 90 = .ok (.if_icmp .ne 73, 3) := by decide +kernel
theorem d_pfok_93 : decode method_3_code 93 = .ok (.aload_n 0, 1) := by decide +kernel
theorem d_pfok_94 : decode method_3_code 94 = .ok (.bipush 9, 2) := by decide +kernel
theorem d_pfok_96 : decode method_3_code 96 = .ok (.invokevirtual 36, 3) := by decide +kernel
theorem d_pfok_99 : decode method_3_code 99 = .ok (.bipush 101, 2) := by decide +kernel
theorem d_pfok_101 : decode method_3_code 101 = .ok (.if_icmp .ne 62, 3) := by decide +kernel
theorem d_pfok_104 : decode method_3_code 104 = .ok (.aload_n 0, 1) := by decide +kernel
theorem d_pfok_105 : decode method_3_code 105 = .ok (.bipush 10, 2) := by decide +kernel
theorem d_pfok_107 : decode method_3_code 107 = .ok (.invokevirtual 36, 3) := by decide +kernel
theorem d_pfok_110 : decode method_3_code 110 = .ok (.bipush 97, 2) := by decide +kernel
theorem d_pfok_112 : decode method_3_code 112 = .ok (.if_icmp .ne 51, 3) := by decide +kernel
theorem d_pfok_115 : decode method_3_code 115 = .ok (.aload_n 0, 1) := by decide +kernel
theorem d_pfok_116 : decode method_3_code 116 = .ok (.bipush 11, 2) := by decide +kernel
theorem d_pfok_118 : decode method_3_code 118 = .ok (.invokevirtual 36, 3) := by decide +kernel
theorem d_pfok_121 : decode method_3_code 121 = .ok (.bipush 100, 2) := by decide +kernel
theorem d_pfok_123 : decode method_3_code 123 = .ok (.if_icmp .ne 40, 3) := by decide +kernel
theorem d_pfok_126 : decode method_3_code 126 = .ok (.aload_n 0, 1) := by decide +kernel
theorem d_pfok_127 : decode method_3_code 127 = .ok (.bipush 12, 2) := by decide +kernel
theorem d_pfok_129 : decode method_3_code 129 = .ok (.invokevirtual 36, 3) := by decide +kernel
theorem d_pfok_132 : decode method_3_code 132 = .ok (.bipush 101, 2) := by decide +kernel
theorem d_pfok_134 : decode method_3_code 134 = .ok (.if_icmp .ne 29, 3) := by decide +kernel
theorem d_pfok_137 : decode method_3_code 137 = .ok (.aload_n 0, 1) := by decide +kernel
theorem d_pfok_138 : decode method_3_code 138 = .ok (.bipush 13, 2) := by decide +kernel
theorem d_pfok_140 : decode method_3_code 140 = .ok (.invokevirtual 36, 3) := by decide +kernel
theorem d_pfok_143 : decode method_3_code 143 = .ok (.bipush 114, 2) := by decide +kernel
theorem d_pfok_145 : decode method_3_code 145 = .ok (.if_icmp .ne 18, 3) := by decide +kernel
theorem d_pfok_148 : decode method_3_code 148 = .ok (.aload_n 0, 1) := by decide +kernel
theorem d_pfok_149 : decode method_3_code 149 = .ok (.bipush 14, 2) := by decide +kernel
theorem d_pfok_151 : decode method_3_code 151 = .ok (.invokevirtual 36, 3) := by decide +kernel
theorem d_pfok_154 : decode method_3_code 154 = .ok (.bipush 32, 2) := by decide +kernel
theorem d_pfok_156 : decode method_3_code 156 = .ok (.if_icmp .ne 7, 3) := by decide +kernel
theorem d_pfok_159 : decode method_3_code 159 = .ok (.iconst 1, 1) := by decide +kernel
theorem d_pfok_160 : decode method_3_code 160 = .ok (.goto 4, 3) := by decide +kernel
theorem d_pfok_164 : decode method_3_code 164 = .ok (.ireturn, 1) := by decide +kernel
theorem d_iini_0 : decode prog_8_method_1_code 0 = .ok (.aload_n 0, 1) := by decide +kernel
theorem d_iini_1 : decode prog_8_method_1_code 1 = .ok (.aload_n 1, 1) := by decide +kernel
theorem d_iini_2 : decode prog_8_method_1_code 2 = .ok (.invokespecial 1, 3) := by decide +kernel
theorem d_iini_5 : decode prog_8_method_1_code 5 = .ok (.return_, 1) := by decide +kernel
theorem d_invh_0 : decode prog_8_method_2_code 0 = .ok (.new 7, 3) := by decide +kernel
theorem d_invh_3 : decode prog_8_method_2_code 3 = .ok (.dup, 1) := by decide +kernel
theorem d_invh_4 : decode prog_8_method_2_code 4 = .ok (.new 9, 3) := by decide +kernel
theorem d_invh_7 : decode prog_8_method_2_code 7 = .ok (.dup, 1) := by decide +kernel
theorem d_invh_8 : decode prog_8_method_2_code 8 = .ok (.invokespecial 11, 3) := by decide +kernel
theorem d_invh_11 : decode prog_8_method_2_code 11 = .ok (.ldc 14, 2) := by decide +kernel
theorem d_invh_13 : decode prog_8_method_2_code 13 = .ok (.invokevirtual 16, 3) := by decide +kernel
theorem d_invh_16 : decode prog_8_method_2_code 16 = .ok (.aload_n 0, 1) := by decide +kernel
theorem d_invh_17 : decode prog_8_method_2_code 17 = .ok (.invokevirtual 16, 3) := by decide +kernel
theorem d_invh_20 : decode prog_8_method_2_code 20 = .ok (.invokevirtual 20, 3) := by decide +kernel
theorem d_invh_23 : decode prog_8_method_2_code 23 = .ok (.invokespecial 24, 3) := by decide +kernel
theorem d_invh_26 : decode prog_8_method_2_code 26 = .ok (.areturn, 1) := by decide +kernel
/-- a char's low byte, signed: what a Latin-1 String holds of it -/
def b8 (c : Int32) : Int32 := c.toInt8.toInt32
theorem b8_b8 (c : Int32) : (b8 c).toInt8.toInt32 = b8 c := by simp [b8]
theorem set_next {f : Int32 → Value} {cs : List Int32} {i k : Nat} {z : Value} (hi : i < cs.length) : ((cs.take i).map f ++ List.replicate (k + 1) z).set i (f cs[i]) = (cs.take (i + 1)).map f ++ List.replicate k z := by
  have hl : ((cs.take i).map f).length = i := by simp; omega
  have e : (cs.take (i + 1)).map f = (cs.take i).map f ++ [f cs[i]] := by
    rw [List.take_add_one, List.getElem?_eq_getElem hi, List.map_append]; rfl
  rw [List.set_append_right _ _ (by omega), hl, Nat.sub_self, List.replicate_succ, List.set_cons_zero, e, List.append_assoc]; rfl
theorem hcs0 : ∀ d ∈ ([] : List Int32), ¬ d < 0 ∧ ¬ 255 < d := fun d hd => nomatch hd
theorem hcsC {c : Int32} {cs : List Int32} (p : ¬ c < 0 ∧ ¬ 255 < c) (q : ∀ d ∈ cs, ¬ d < 0 ∧ ¬ 255 < d) : ∀ d ∈ c :: cs, ¬ d < 0 ∧ ¬ 255 < d := fun d hd => (List.mem_cons.mp hd).elim (fun e => e ▸ p) (q d)
theorem sub1 {a : Addr} {sf : List Addr} (h : a ∈ sf) : ∀ z ∈ [a], z ∈ sf := fun z hz => by cases List.mem_singleton.mp hz; exact h
theorem sub0 {sf : List Addr} : ∀ z ∈ ([] : List Addr), z ∈ sf := fun z hz => nomatch hz
theorem nar_c {c : Int32} (h0 : ¬ c < 0) (h1 : ¬ 255 < c) : nar .char c = c := by
  have q : c &&& 255 = c := by
    rw [← Int32.toInt_inj, c_mask c 255 8 (by omega) (by decide)]
    rw [Int32.lt_iff_toInt_lt] at h0 h1
    have e1 : (0 : Int32).toInt = 0 := by decide
    have e2 : (255 : Int32).toInt = 255 := by decide
    omega
  show c.toUInt32.toUInt16.toUInt32.toInt32 = c
  have := i2c_mask c
  rw [q] at this; exact this
theorem chr_rng (x : Int32) : ¬ (x &&& 255).toUInt32.toUInt16.toUInt32.toInt32 < 0 ∧ ¬ 255 < (x &&& 255).toUInt32.toUInt16.toUInt32.toInt32 := by
  rw [i2c_mask]
  have h := c_mask x 255 8 (by omega) (by decide)
  rw [Int32.lt_iff_toInt_lt, Int32.lt_iff_toInt_lt, h]
  have e1 : (0 : Int32).toInt = 0 := by decide
  have e2 : (255 : Int32).toInt = 255 := by decide
  rw [e1, e2]
  omega
theorem b8_inj {a c : Int32} (ha : ¬ a < 0 ∧ ¬ 255 < a) (hc : ¬ c < 0 ∧ ¬ 255 < c) (q : b8 a = b8 c) : a = c := by
  have h1 := c_i2b a
  have h2 := c_i2b c
  have e := congrArg Int32.toInt q
  unfold b8 at e
  obtain ⟨a1, a2⟩ := ha
  obtain ⟨c1, c2⟩ := hc
  rw [Int32.lt_iff_toInt_lt] at a1 a2 c1 c2
  have e1 : (0 : Int32).toInt = 0 := by decide
  have e2 : (255 : Int32).toInt = 255 := by decide
  rw [← Int32.toInt_inj]
  omega
theorem shr0 (n : Int32) : n >>> ((0 : Int32) &&& 31) = n := by
  rw [show ((0 : Int32) &&& 31) = 0 by decide]
  apply Int32.toBitVec_inj.mp
  simp
theorem shl0 (n : Int32) : n <<< ((0 : Int32) &&& 31) = n := by
  rw [show ((0 : Int32) &&& 31) = 0 by decide]
  apply Int32.toBitVec_inj.mp
  simp
/-- the char that a Latin-1 byte stands for -/
def u8 (b : Int32) : Int32 := (b &&& 255).toUInt32.toUInt16.toUInt32.toInt32
theorem nar_u8 (b : Int32) : narrow .char (.int (u8 b)) = .int (u8 b) := by
  have h := chr_rng b
  have := nar_c (c := u8 b) h.1 h.2
  exact congrArg Value.int this
theorem u8_b8 {c : Int32} (h : ¬ c < 0 ∧ ¬ 255 < c) : u8 (b8 c) = c := by
  unfold u8
  rw [i2c_mask]
  have h1 := c_i2b c
  have h2 := c_mask (b8 c) 255 8 (by omega) (by decide)
  obtain ⟨a1, a2⟩ := h
  rw [Int32.lt_iff_toInt_lt] at a1 a2
  have e1 : (0 : Int32).toInt = 0 := by decide
  have e2 : (255 : Int32).toInt = 255 := by decide
  rw [← Int32.toInt_inj, h2]
  unfold b8
  omega
/-- bytes that fit -/
abbrev BL (bs : List Int32) : Prop := ∀ b ∈ bs, fits .byte (.int b) = true
theorem BL.b8 (cs : List Int32) : BL (cs.map b8) := fun b hb => by
  obtain ⟨c, -, rfl⟩ := List.mem_map.mp hb
  exact fits_nar_byte c
theorem BL.app {as bs : List Int32} (h1 : BL as) (h2 : BL bs) : BL (as ++ bs) := fun b hb => (List.mem_append.mp hb).elim (h1 b) (h2 b)
theorem BL.rep (n : Nat) : BL (List.replicate n 0) := fun b hb => by rw [List.eq_of_mem_replicate hb]; rfl
theorem BL.vals {bs : List Int32} (h : BL bs) : ∀ v ∈ bs.map Value.int, fits .byte v = true := fun v hv => by
  obtain ⟨b, hb, rfl⟩ := List.mem_map.mp hv
  exact h b hb
abbrev IEN : String := "com/example/rungway/rungway/framework/InstallException"
def tPre : List Int32 := [105, 110, 118, 97, 108, 105, 100, 32, 104, 101, 97, 100, 101, 114, 32]
theorem ofNat_inj {m n : Nat} (hm : m < 2147483648) (hn : n < 2147483648) (q : Int32.ofNat m = Int32.ofNat n) : m = n := by
  have := congrArg Int32.toInt q
  rw [toInt_of rfl (by omega), toInt_of rfl (by omega)] at this
  omega
theorem len16 {bs : List Int32} {r : Nat} (h : bs.length + r = 16) : ((bs ++ List.replicate r (0 : Int32)).map Value.int).length = 16 := by simp [h]
theorem pre_at {ds : List Int32} {j : Nat} (h : j < 15) : (tPre ++ ds).getD j 0 = tPre.getD j 0 := by
  rw [List.getD_eq_getElem?_getD, List.getD_eq_getElem?_getD, List.getElem?_append_left (show j < tPre.length from h)]
theorem exa_neAr {Z : State} {h : Heap} {p q : Addr} {C : String} {ty : FieldType} {vs : List Value} {n : Nat} {a0 : Array Value} (E : Exa Z h p C) (F : Ar Z h q ty vs) (w : (Jvm.Cond.instantiable C n).before a0 Z = true) : p ≠ q := fun e => by
  subst e
  obtain ⟨c1, k1, e1, f1, g1, -⟩ := E
  obtain ⟨c2, ⟨e2, hA, -⟩, -⟩ := F
  cases e1.symm.trans e2
  obtain ⟨-, kk, hk, comp, hkind⟩ := hA
  cases g1.symm.trans hk
  simp [Jvm.Cond.before, Jvm.Cond.holds, Jvm.Cond.value, f1, g1, hkind] at w
theorem fitC_of {Z : State} {h : Heap} {a : Addr} {cl : Cell} (A : Arr Z h a cl .byte) (bv : ∀ v ∈ cl.slots.toList, fits .byte v = true) : FitC Z cl := fun i v hv => by
  obtain ⟨-, k, hk, comp, hkind⟩ := A.2.1
  have q := bv v (List.mem_of_getElem? (i := i) (by rw [Array.getElem?_toList]; exact hv))
  simp [State.fitsSlot, State.slotType?, hk, hkind, q]
theorem grown {bs : List Int32} {r : Nat} : (bs ++ List.replicate r 0).map Value.int ++ List.replicate 18 (Value.int 0) = (bs ++ List.replicate (r + 18) 0).map Value.int := by
  rw [List.map_append, List.map_append, List.map_replicate, List.map_replicate, List.append_assoc, List.replicate_append_replicate]
theorem copied {vs : List Value} (h : vs.length = 16) : (List.replicate 34 (Value.int 0)).take 0 ++ (vs.drop 0).take 16 ++ (List.replicate 34 (Value.int 0)).drop (0 + 16) = vs ++ List.replicate 18 (.int 0) := by
  rw [List.take_zero, List.nil_append, List.drop_zero, List.take_of_length_le (by omega)]
  rfl
def b_cmp5 : Bx := (({ frames := 0, cells := 0, slots := 0, locals := 0 } : Room), (⟨"java/lang/StringUTF16", "compress", "([CI[BII)I"⟩ : MethodName), jdk_52_method_21_code, 7, (Option.some Jvm.ClassFile.FieldType.int))
theorem ef_cmp5 (a d : Addr) (cs : List Int32) (mI : MethodId) : entryFrame mI #[.ref a, .int (0 : Int32), .ref d, .int (0 : Int32), .int (Int32.ofNat cs.length)] 7 = mkF mI 0 #[.val (.ref a), .val (.int (0 : Int32)), .val (.ref d), .val (.int (0 : Int32)), .val (.int (Int32.ofNat cs.length)), .unset, .unset] [] := by first | (simp [entryFrame, mkF, argsToLocals, Value.category]; done) | rfl
theorem pn_java_lang_StringUTF16 : plainName "java/lang/StringUTF16" = true := by first | (simp [plainName, overriddenIn]; done) | decide +kernel
theorem pd_cmp5 : parseMethodDescriptor "([CI[BII)I" = some ⟨[(.array .char), .int, (.array .byte), .int, .int], some .int⟩ := by decide +kernel
set_option maxRecDepth 65536 in
set_option maxHeartbeats 4000000 in
theorem ct_cmp5 {a0 : Array Value} {Z : State} (hw : ∀ d ∈ tables_1, d.before a0 Z = true) (l : Launch) (nar kn : Bool) (hnr : nar = false) (h0 : Heap) (a d : Addr) (cs : List Int32) (Fa : Ar Z h0 a .char (cs.map Value.int)) (Fd : Ar Z h0 d .byte (List.replicate cs.length (.int 0))) (hne : a ≠ d) (hcs : ∀ c ∈ cs, ¬ c < 0 ∧ ¬ 255 < c) :
    Ct l Z EL1 (⟨"java/lang/StringUTF16", "compress", "([CI[BII)I"⟩ : MethodName) jdk_52_method_21_code 7 (Option.some Jvm.ClassFile.FieldType.int) ({ frames := 0, cells := 0, slots := 0, locals := 0 } : Room) #[.ref a, .int (0 : Int32), .ref d, .int (0 : Int32), .int (Int32.ofNat cs.length)] h0 [d] nar kn (fun v h sn => v = some (.int (Int32.ofNat cs.length)) ∧ sn = [] ∧ Ar Z h d .byte (cs.map fun c => Value.int (b8 c))) := by
  refine Ct.intro (plainFor_of_name pn_java_lang_StringUTF16) (ew hw) (ef_cmp5 a d cs) ?_
  intro x hl hn0 hkn hsf hh H0
  have hnar : x.nar = false := hn0.trans hnr
  have H0 : Hr x b_cmp5 Z EL1 0 0 h0 [d] 0 #[.val (.ref a), .val (.int (0 : Int32)), .val (.ref d), .val (.int (0 : Int32)), .val (.int (Int32.ofNat cs.length)), .unset, .unset] [] := H0
  have hlen : cs.length < 2147483648 := by simpa using Fa.len
  have H1 : Hr x b_cmp5 Z EL1 0 0 h0 [d] 1 #[.val (.ref a), .val (.int (0 : Int32)), .val (.ref d), .val (.int (0 : Int32)), .val (.int (Int32.ofNat cs.length)), .unset, .unset] [.int (0 : Int32)] := H0.iconst d_cmp5_0
  have H2 : Hr x b_cmp5 Z EL1 0 0 h0 [d] 3 #[.val (.ref a), .val (.int (0 : Int32)), .val (.ref d), .val (.int (0 : Int32)), .val (.int (Int32.ofNat cs.length)), .val (.int (0 : Int32)), .unset] [] := H1.istore d_cmp5_1
  have loop : ∀ (k i : Nat) (h : Heap) (o : Slot), i + k = cs.length → (o = .unset ∨ ∃ w, o = .val w ∧ w.category = 1) → Ar Z h a .char (cs.map Value.int) → Ar Z h d .byte ((cs.take i).map (fun c => Value.int (b8 c)) ++ List.replicate k (.int 0)) → Hr x b_cmp5 Z EL1 0 0 h [d] 3 #[.val (.ref a), .val (.int (Int32.ofNat i)), .val (.ref d), .val (.int (Int32.ofNat i)), .val (.int (Int32.ofNat cs.length)), .val (.int (Int32.ofNat i)), o] [] → Ends x b_cmp5 Z EL1 (fun v h sn => v = some (.int (Int32.ofNat cs.length)) ∧ sn = [] ∧ Ar Z h d .byte (cs.map fun c => Value.int (b8 c))) := by
    intro k
    induction k with
    | zero =>
      intro i h o hi ho Fa Fd H
      obtain rfl : i = cs.length := by omega
      have H3 : Hr x b_cmp5 Z EL1 0 0 h [d] 5 #[.val (.ref a), .val (.int (Int32.ofNat cs.length)), .val (.ref d), .val (.int (Int32.ofNat cs.length)), .val (.int (Int32.ofNat cs.length)), .val (.int (Int32.ofNat cs.length)), o] [.int (Int32.ofNat cs.length)] := H.iload d_cmp5_3
      have H4 : Hr x b_cmp5 Z EL1 0 0 h [d] 7 #[.val (.ref a), .val (.int (Int32.ofNat cs.length)), .val (.ref d), .val (.int (Int32.ofNat cs.length)), .val (.int (Int32.ofNat cs.length)), .val (.int (Int32.ofNat cs.length)), o] [.int (Int32.ofNat cs.length), .int (Int32.ofNat cs.length)] := H3.iload d_cmp5_5
      have H5 : Hr x b_cmp5 Z EL1 0 0 h [d] 44 #[.val (.ref a), .val (.int (Int32.ofNat cs.length)), .val (.ref d), .val (.int (Int32.ofNat cs.length)), .val (.int (Int32.ofNat cs.length)), .val (.int (Int32.ofNat cs.length)), o] [] := H4.icmpT d_cmp5_7 (XT.ii_ge_t (by simp))
      have H6 : Hr x b_cmp5 Z EL1 0 0 h [d] 46 #[.val (.ref a), .val (.int (Int32.ofNat cs.length)), .val (.ref d), .val (.int (Int32.ofNat cs.length)), .val (.int (Int32.ofNat cs.length)), .val (.int (Int32.ofNat cs.length)), o] [.int (Int32.ofNat cs.length)] := H5.iload d_cmp5_44
      exact H6.finI d_cmp5_46 ⟨rfl, rfl, by simpa using Fd⟩ sub0
    | succ k ih =>
      intro i h o hi ho Fa Fd H
      have hi1 : i < cs.length := by omega
      have hlt : Int32.ofNat i < Int32.ofNat cs.length := by rw [Int32.lt_iff_toInt_lt, toInt_of rfl (by omega), toInt_of rfl (by omega)]; omega
      obtain ⟨hc0, hc1⟩ := hcs cs[i] (List.getElem_mem hi1)
      have H3 : Hr x b_cmp5 Z EL1 0 0 h [d] 5 #[.val (.ref a), .val (.int (Int32.ofNat i)), .val (.ref d), .val (.int (Int32.ofNat i)), .val (.int (Int32.ofNat cs.length)), .val (.int (Int32.ofNat i)), o] [.int (Int32.ofNat i)] := H.iload d_cmp5_3
      have H4 : Hr x b_cmp5 Z EL1 0 0 h [d] 7 #[.val (.ref a), .val (.int (Int32.ofNat i)), .val (.ref d), .val (.int (Int32.ofNat i)), .val (.int (Int32.ofNat cs.length)), .val (.int (Int32.ofNat i)), o] [.int (Int32.ofNat cs.length), .int (Int32.ofNat i)] := H3.iload d_cmp5_5
      have H5 : Hr x b_cmp5 Z EL1 0 0 h [d] 10 #[.val (.ref a), .val (.int (Int32.ofNat i)), .val (.ref d), .val (.int (Int32.ofNat i)), .val (.int (Int32.ofNat cs.length)), .val (.int (Int32.ofNat i)), o] [] := H4.icmpF d_cmp5_7 (XT.ii_ge_f hlt)
      have H6 : Hr x b_cmp5 Z EL1 0 0 h [d] 11 #[.val (.ref a), .val (.int (Int32.ofNat i)), .val (.ref d), .val (.int (Int32.ofNat i)), .val (.int (Int32.ofNat cs.length)), .val (.int (Int32.ofNat i)), o] [.ref a] := H5.aloadN d_cmp5_10
      have H7 : Hr x b_cmp5 Z EL1 0 0 h [d] 12 #[.val (.ref a), .val (.int (Int32.ofNat i)), .val (.ref d), .val (.int (Int32.ofNat i)), .val (.int (Int32.ofNat cs.length)), .val (.int (Int32.ofNat i)), o] [.int (Int32.ofNat i), .ref a] := H6.iloadN d_cmp5_11
      have H8 : Hr x b_cmp5 Z EL1 0 0 h [d] 13 #[.val (.ref a), .val (.int (Int32.ofNat i)), .val (.ref d), .val (.int (Int32.ofNat i)), .val (.int (Int32.ofNat cs.length)), .val (.int (Int32.ofNat i)), o] [.int (cs[i])] := H7.caload Fa d_cmp5_12 (i := i) rfl (by simp [hi1])
      have H9 : Hr x b_cmp5 Z EL1 0 0 h [d] 15 #[.val (.ref a), .val (.int (Int32.ofNat i)), .val (.ref d), .val (.int (Int32.ofNat i)), .val (.int (Int32.ofNat cs.length)), .val (.int (Int32.ofNat i)), .val (.int (cs[i]))] [] := H8.istore d_cmp5_13 (hl := XS.store1 (o := o) rfl ho rfl)
      have H10 : Hr x b_cmp5 Z EL1 0 0 h [d] 17 #[.val (.ref a), .val (.int (Int32.ofNat i)), .val (.ref d), .val (.int (Int32.ofNat i)), .val (.int (Int32.ofNat cs.length)), .val (.int (Int32.ofNat i)), .val (.int (cs[i]))] [.int (cs[i])] := H9.iload d_cmp5_15
      have H11 : Hr x b_cmp5 Z EL1 0 0 h [d] 20 #[.val (.ref a), .val (.int (Int32.ofNat i)), .val (.ref d), .val (.int (Int32.ofNat i)), .val (.int (Int32.ofNat cs.length)), .val (.int (Int32.ofNat i)), .val (.int (cs[i]))] [.int (255 : Int32), .int (cs[i])] := H10.sipush d_cmp5_17
      have H12 : Hr x b_cmp5 Z EL1 0 0 h [d] 26 #[.val (.ref a), .val (.int (Int32.ofNat i)), .val (.ref d), .val (.int (Int32.ofNat i)), .val (.int (Int32.ofNat cs.length)), .val (.int (Int32.ofNat i)), .val (.int (cs[i]))] [] := H11.icmpT d_cmp5_20 (XT.ii_le_t hc1)
      have H13 : Hr x b_cmp5 Z EL1 0 0 h [d] 27 #[.val (.ref a), .val (.int (Int32.ofNat i)), .val (.ref d), .val (.int (Int32.ofNat i)), .val (.int (Int32.ofNat cs.length)), .val (.int (Int32.ofNat i)), .val (.int (cs[i]))] [.ref d] := H12.aloadN d_cmp5_26
      have H14 : Hr x b_cmp5 Z EL1 0 0 h [d] 28 #[.val (.ref a), .val (.int (Int32.ofNat i)), .val (.ref d), .val (.int (Int32.ofNat i)), .val (.int (Int32.ofNat cs.length)), .val (.int (Int32.ofNat i)), .val (.int (cs[i]))] [.int (Int32.ofNat i), .ref d] := H13.iloadN d_cmp5_27
      have H15 : Hr x b_cmp5 Z EL1 0 0 h [d] 30 #[.val (.ref a), .val (.int (Int32.ofNat i)), .val (.ref d), .val (.int (Int32.ofNat i)), .val (.int (Int32.ofNat cs.length)), .val (.int (Int32.ofNat i)), .val (.int (cs[i]))] [.int (cs[i]), .int (Int32.ofNat i), .ref d] := H14.iload d_cmp5_28
      have H16 : Hr x b_cmp5 Z EL1 0 0 h [d] 31 #[.val (.ref a), .val (.int (Int32.ofNat i)), .val (.ref d), .val (.int (Int32.ofNat i)), .val (.int (Int32.ofNat cs.length)), .val (.int (Int32.ofNat i)), .val (.int (cs[i]))] [.int (b8 cs[i]), .int (Int32.ofNat i), .ref d] := H15.i2b d_cmp5_30
      obtain ⟨h', Wd, H17⟩ := H16.bastore (List.mem_singleton.mpr rfl) Fd d_cmp5_31 (i := i) rfl (by simp; omega) (hw := (b8_b8 _))
      have H17 : Hr x b_cmp5 Z EL1 0 0 h' [d] 32 #[.val (.ref a), .val (.int (Int32.ofNat i)), .val (.ref d), .val (.int (Int32.ofNat i)), .val (.int (Int32.ofNat cs.length)), .val (.int (Int32.ofNat i)), .val (.int (cs[i]))] [] := H17
      have H18 : Hr x b_cmp5 Z EL1 0 0 h' [d] 35 #[.val (.ref a), .val (.int (Int32.ofNat (i + 1))), .val (.ref d), .val (.int (Int32.ofNat i)), .val (.int (Int32.ofNat cs.length)), .val (.int (Int32.ofNat i)), .val (.int (cs[i]))] [] := H17.iinc d_cmp5_32 (v := (Int32.ofNat (i + 1))) (hv := (inc_ofNat i).symm)
      have H19 : Hr x b_cmp5 Z EL1 0 0 h' [d] 38 #[.val (.ref a), .val (.int (Int32.ofNat (i + 1))), .val (.ref d), .val (.int (Int32.ofNat (i + 1))), .val (.int (Int32.ofNat cs.length)), .val (.int (Int32.ofNat i)), .val (.int (cs[i]))] [] := H18.iinc d_cmp5_35 (v := (Int32.ofNat (i + 1))) (hv := (inc_ofNat i).symm)
      have H20 : Hr x b_cmp5 Z EL1 0 0 h' [d] 41 #[.val (.ref a), .val (.int (Int32.ofNat (i + 1))), .val (.ref d), .val (.int (Int32.ofNat (i + 1))), .val (.int (Int32.ofNat cs.length)), .val (.int (Int32.ofNat (i + 1))), .val (.int (cs[i]))] [] := H19.iinc d_cmp5_38 (v := (Int32.ofNat (i + 1))) (hv := (inc_ofNat i).symm)
      have H21 : Hr x b_cmp5 Z EL1 0 0 h' [d] 3 #[.val (.ref a), .val (.int (Int32.ofNat (i + 1))), .val (.ref d), .val (.int (Int32.ofNat (i + 1))), .val (.int (Int32.ofNat cs.length)), .val (.int (Int32.ofNat (i + 1))), .val (.int (cs[i]))] [] := H20.goto d_cmp5_41
      refine ih (i + 1) _ _ (by omega) (Or.inr ⟨_, rfl, rfl⟩) (Fa.other Wd hne) ?_ H21
      have := Fd.set Wd; rw [set_next (f := fun c => Value.int (b8 c)) hi1] at this; exact this
  exact loop cs.length 0 h0 .unset (by omega) (Or.inl rfl) Fa (by simpa using Fd) H2
def b_cmp3 (n : Nat) : Bx := (({ frames := 1, cells := 1, slots := n, locals := 18 } : Room), (⟨"java/lang/StringUTF16", "compress", "([CII)[B"⟩ : MethodName), jdk_52_method_16_code, 6, (Option.some (Jvm.ClassFile.FieldType.array Jvm.ClassFile.FieldType.byte)))
theorem ef_cmp3 (a : Addr) (cs : List Int32) (mI : MethodId) : entryFrame mI #[.ref a, .int (0 : Int32), .int (Int32.ofNat cs.length)] 6 = mkF mI 0 #[.val (.ref a), .val (.int (0 : Int32)), .val (.int (Int32.ofNat cs.length)), .unset, .unset, .unset] [] := by first | (simp [entryFrame, mkF, argsToLocals, Value.category]; done) | rfl
theorem pd_cmp3 : parseMethodDescriptor "([CII)[B" = some ⟨[(.array .char), .int, .int], some (.array .byte)⟩ := by decide +kernel
set_option maxRecDepth 65536 in
set_option maxHeartbeats 4000000 in
theorem ct_cmp3 {a0 : Array Value} {Z : State} (hw : ∀ d ∈ tables_1, d.before a0 Z = true) (l : Launch) (nar kn : Bool) (hnr : nar = false) (h0 : Heap) (a : Addr) (cs : List Int32) (Fa : Ar Z h0 a .char (cs.map Value.int)) (hcap : cs.length ≤ 4000) (hcs : ∀ c ∈ cs, ¬ c < 0 ∧ ¬ 255 < c) :
    Ct l Z EL1 (⟨"java/lang/StringUTF16", "compress", "([CII)[B"⟩ : MethodName) jdk_52_method_16_code 6 (Option.some (Jvm.ClassFile.FieldType.array Jvm.ClassFile.FieldType.byte)) ({ frames := 1, cells := 1, slots := cs.length, locals := 18 } : Room) #[.ref a, .int (0 : Int32), .int (Int32.ofNat cs.length)] h0 [] nar kn (fun v h sn => ∃ t, v = some (.ref t) ∧ h0.size ≤ t ∧ sn = [t] ∧ Ar Z h t .byte (cs.map fun c => Value.int (b8 c))) := by
  refine Ct.intro (plainFor_of_name pn_java_lang_StringUTF16) (ew hw) (ef_cmp3 a cs) ?_
  intro x hl hn0 hkn hsf hh H0
  have hnar : x.nar = false := hn0.trans hnr
  have H0 : Hr x (b_cmp3 cs.length) Z EL1 0 0 h0 [] 0 #[.val (.ref a), .val (.int (0 : Int32)), .val (.int (Int32.ofNat cs.length)), .unset, .unset, .unset] [] := H0
  have hclamp : (Int32.ofNat cs.length).toNatClampNeg = cs.length := clamp_of rfl (by omega)
  have hnn : ¬ Int32.ofNat cs.length < 0 := by rw [Int32.lt_iff_toInt_lt, toInt_of rfl (by omega)]; simp
  have H1 : Hr x (b_cmp3 cs.length) Z EL1 0 0 h0 [] 1 #[.val (.ref a), .val (.int (0 : Int32)), .val (.int (Int32.ofNat cs.length)), .unset, .unset, .unset] [.int (Int32.ofNat cs.length)] := H0.iloadN d_cmp3_0
  obtain ⟨h1, E1, Fd, H2⟩ := H1.newarray (aty := .byte) (cap := cs.length) (w15 hw) d_cmp3_1 hnn (Nat.le_of_eq hclamp) (by omega) (by first | (simp [b_cmp3, Bx.R]; done) | (simp [b_cmp3, Bx.R]; omega)) (by first | (simp [b_cmp3, Bx.R]; done) | (simp [b_cmp3, Bx.R]; omega))
  obtain ⟨d, g_d⟩ : ∃ z, z = h0.size := ⟨_, rfl⟩
  rw [← g_d] at Fd H2
  have Fd : Ar Z h1 d .byte (List.replicate cs.length (.int 0)) := (by have := Fd; rw [hclamp] at this; exact this)
  have H2 : Hr x (b_cmp3 cs.length) Z EL1 1 (0 + cs.length) h1 [d] 3 #[.val (.ref a), .val (.int (0 : Int32)), .val (.int (Int32.ofNat cs.length)), .unset, .unset, .unset] [.ref d] := H2
  have H3 : Hr x (b_cmp3 cs.length) Z EL1 1 (0 + cs.length) h1 [d] 4 #[.val (.ref a), .val (.int (0 : Int32)), .val (.int (Int32.ofNat cs.length)), .val (.ref d), .unset, .unset] [] := H2.astoreN d_cmp3_3
  have H4 : Hr x (b_cmp3 cs.length) Z EL1 1 (0 + cs.length) h1 [d] 5 #[.val (.ref a), .val (.int (0 : Int32)), .val (.int (Int32.ofNat cs.length)), .val (.ref d), .unset, .unset] [.ref a] := H3.aloadN d_cmp3_4
  have H5 : Hr x (b_cmp3 cs.length) Z EL1 1 (0 + cs.length) h1 [d] 6 #[.val (.ref a), .val (.int (0 : Int32)), .val (.int (Int32.ofNat cs.length)), .val (.ref d), .unset, .unset] [.int (0 : Int32), .ref a] := H4.iloadN d_cmp3_5
  have H6 : Hr x (b_cmp3 cs.length) Z EL1 1 (0 + cs.length) h1 [d] 7 #[.val (.ref a), .val (.int (0 : Int32)), .val (.int (Int32.ofNat cs.length)), .val (.ref d), .unset, .unset] [.ref d, .int (0 : Int32), .ref a] := H5.aloadN d_cmp3_6
  have H7 : Hr x (b_cmp3 cs.length) Z EL1 1 (0 + cs.length) h1 [d] 8 #[.val (.ref a), .val (.int (0 : Int32)), .val (.int (Int32.ofNat cs.length)), .val (.ref d), .unset, .unset] [.int (0 : Int32), .ref d, .int (0 : Int32), .ref a] := H6.iconst d_cmp3_7
  have H8 : Hr x (b_cmp3 cs.length) Z EL1 1 (0 + cs.length) h1 [d] 9 #[.val (.ref a), .val (.int (0 : Int32)), .val (.int (Int32.ofNat cs.length)), .val (.ref d), .unset, .unset] [.int (Int32.ofNat cs.length), .int (0 : Int32), .ref d, .int (0 : Int32), .ref a] := H7.iloadN d_cmp3_8
  obtain ⟨_, h2, _, ⟨rfl, rfl, Fd2⟩, K2, H9⟩ := H8.callS (argsL := [.ref a, .int (0 : Int32), .ref d, .int (0 : Int32), .int (Int32.ofNat cs.length)]) (rest := []) (Wr := 0) (ct_cmp5 hw x.l x.nar x.kn hnar h1 a d cs (Fa.ext E1) Fd (neN (by have := Fa.lt; omega)) hcs) (sub1 (List.mem_cons_self ..)) (w228 hw) (w229 hw) (w226 hw) (w230 hw) d_cmp3_9 pd_cmp5 rfl (hf := by first | (simp [b_cmp3, Bx.R]; done) | (simp [b_cmp3, Bx.R]; omega)) (hl := by first | (simp [b_cmp3, Bx.R]; done) | (simp [b_cmp3, Bx.R]; omega)) (hc := by first | (simp [b_cmp3, Bx.R]; done) | (simp [b_cmp3, Bx.R]; omega)) (hs := by first | (simp [b_cmp3, Bx.R]; done) | (simp [b_cmp3, Bx.R]; omega))
  have H9 : Hr x (b_cmp3 cs.length) Z EL1 1 (0 + cs.length + 0) h2 [d] 12 #[.val (.ref a), .val (.int (0 : Int32)), .val (.int (Int32.ofNat cs.length)), .val (.ref d), .unset, .unset] [.int (Int32.ofNat cs.length)] := H9
  have H10 : Hr x (b_cmp3 cs.length) Z EL1 1 (0 + cs.length + 0) h2 [d] 14 #[.val (.ref a), .val (.int (0 : Int32)), .val (.int (Int32.ofNat cs.length)), .val (.ref d), .val (.int (Int32.ofNat cs.length)), .unset] [] := H9.istore d_cmp3_12
  have H11 : Hr x (b_cmp3 cs.length) Z EL1 1 (0 + cs.length + 0) h2 [d] 16 #[.val (.ref a), .val (.int (0 : Int32)), .val (.int (Int32.ofNat cs.length)), .val (.ref d), .val (.int (Int32.ofNat cs.length)), .unset] [.int (Int32.ofNat cs.length)] := H10.iload d_cmp3_14
  have H12 : Hr x (b_cmp3 cs.length) Z EL1 1 (0 + cs.length + 0) h2 [d] 17 #[.val (.ref a), .val (.int (0 : Int32)), .val (.int (Int32.ofNat cs.length)), .val (.ref d), .val (.int (Int32.ofNat cs.length)), .unset] [.int (Int32.ofNat cs.length), .int (Int32.ofNat cs.length)] := H11.iloadN d_cmp3_16
  have H13 : Hr x (b_cmp3 cs.length) Z EL1 1 (0 + cs.length + 0) h2 [d] 57 #[.val (.ref a), .val (.int (0 : Int32)), .val (.int (Int32.ofNat cs.length)), .val (.ref d), .val (.int (Int32.ofNat cs.length)), .unset] [] := H12.icmpT d_cmp3_17 (XT.ii_eq_t rfl)
  have H14 : Hr x (b_cmp3 cs.length) Z EL1 1 (0 + cs.length + 0) h2 [d] 58 #[.val (.ref a), .val (.int (0 : Int32)), .val (.int (Int32.ofNat cs.length)), .val (.ref d), .val (.int (Int32.ofNat cs.length)), .unset] [.ref d] := H13.aloadN d_cmp3_57
  exact H14.finA d_cmp3_58 ⟨d, rfl, by omega, rfl, Fd2⟩ (sub1 (List.mem_cons_self ..)) (hK := by first | (simp [b_cmp3, Bx.R]; done) | (simp [b_cmp3, Bx.R]; omega)) (hS := by first | (simp [b_cmp3, Bx.R]; done) | (simp [b_cmp3, Bx.R]; omega))
def b_cfal : Bx := (({ frames := 0, cells := 0, slots := 0, locals := 0 } : Room), (⟨"java/lang/StringUTF16", "coderFromArrayLen", "([BI)B"⟩ : MethodName), jdk_52_method_15_code, 2, (Option.some Jvm.ClassFile.FieldType.byte))
theorem ef_cfal (d : Addr) (n : Nat) (mI : MethodId) : entryFrame mI #[.ref d, .int (Int32.ofNat n)] 2 = mkF mI 0 #[.val (.ref d), .val (.int (Int32.ofNat n))] [] := by first | (simp [entryFrame, mkF, argsToLocals, Value.category]; done) | rfl
theorem pd_cfal : parseMethodDescriptor "([BI)B" = some ⟨[(.array .byte), .int], some .byte⟩ := by decide +kernel
set_option maxRecDepth 65536 in
set_option maxHeartbeats 4000000 in
theorem ct_cfal {a0 : Array Value} {Z : State} (hw : ∀ d ∈ tables_1, d.before a0 Z = true) (l : Launch) (nar kn : Bool) (hnr : nar = false) (h0 : Heap) (d : Addr) (vs : List Value) (n : Nat) (hn : vs.length = n) (Fd : Ar Z h0 d .byte vs) :
    Ct l Z EL1 (⟨"java/lang/StringUTF16", "coderFromArrayLen", "([BI)B"⟩ : MethodName) jdk_52_method_15_code 2 (Option.some Jvm.ClassFile.FieldType.byte) ({ frames := 0, cells := 0, slots := 0, locals := 0 } : Room) #[.ref d, .int (Int32.ofNat n)] h0 [] nar kn (fun v h sn => v = some (.int 0) ∧ sn = [] ∧ h = h0) := by
  refine Ct.intro (plainFor_of_name pn_java_lang_StringUTF16) (ew hw) (ef_cfal d n) ?_
  intro x hl hn0 hkn hsf hh H0
  have hnar : x.nar = false := hn0.trans hnr
  have H0 : Hr x b_cfal Z EL1 0 0 h0 [] 0 #[.val (.ref d), .val (.int (Int32.ofNat n))] [] := H0
  have H1 : Hr x b_cfal Z EL1 0 0 h0 [] 1 #[.val (.ref d), .val (.int (Int32.ofNat n))] [.int (Int32.ofNat n)] := H0.iloadN d_cfal_0
  have H2 : Hr x b_cfal Z EL1 0 0 h0 [] 2 #[.val (.ref d), .val (.int (Int32.ofNat n))] [.ref d, .int (Int32.ofNat n)] := H1.aloadN d_cfal_1
  have H3 : Hr x b_cfal Z EL1 0 0 h0 [] 3 #[.val (.ref d), .val (.int (Int32.ofNat n))] [.int (Int32.ofNat n), .int (Int32.ofNat n)] := H2.arraylength Fd d_cfal_2 (hn := (by rw [hn]))
  have H4 : Hr x b_cfal Z EL1 0 0 h0 [] 4 #[.val (.ref d), .val (.int (Int32.ofNat n))] [.int (0 : Int32)] := H3.isub d_cfal_3 (hv := (by simp))
  have H5 : Hr x b_cfal Z EL1 0 0 h0 [] 6 #[.val (.ref d), .val (.int (Int32.ofNat n))] [.int (31 : Int32), .int (0 : Int32)] := H4.bipush d_cfal_4
  have H6 : Hr x b_cfal Z EL1 0 0 h0 [] 7 #[.val (.ref d), .val (.int (Int32.ofNat n))] [.int (0 : Int32)] := H5.iushr d_cfal_6 (hv := (by decide))
  have H7 : Hr x b_cfal Z EL1 0 0 h0 [] 8 #[.val (.ref d), .val (.int (Int32.ofNat n))] [.int (0 : Int32)] := H6.i2b d_cfal_7 (hv := (by decide))
  exact H7.finZ d_cfal_8 (t := .byte) (by first | rfl | decide) ⟨rfl, rfl, rfl⟩ sub0
def b_sini4 (n : Nat) : Bx := (({ frames := 2, cells := 4, slots := 8 + n, locals := 35 } : Room), (⟨"java/lang/String", "<init>", "([CIILjava/lang/Void;)V"⟩ : MethodName), jdk_42_method_149_code, 6, (Option.none : Option Jvm.ClassFile.FieldType))
theorem ef_sini4 (s a : Addr) (cs : List Int32) (mI : MethodId) : entryFrame mI #[.ref s, .ref a, .int (0 : Int32), .int (Int32.ofNat cs.length), .null] 6 = mkF mI 0 #[.val (.ref s), .val (.ref a), .val (.int (0 : Int32)), .val (.int (Int32.ofNat cs.length)), .val (.null), .unset] [] := by first | (simp [entryFrame, mkF, argsToLocals, Value.category]; done) | rfl
theorem pn_java_lang_String : plainName "java/lang/String" = true := by first | (simp [plainName, overriddenIn]; done) | decide +kernel
theorem pd_sini4 : parseMethodDescriptor "([CIILjava/lang/Void;)V" = some ⟨[(.array .char), .int, .int, (.object "java/lang/Void")], none⟩ := by decide +kernel
set_option maxRecDepth 65536 in
set_option maxHeartbeats 4000000 in
theorem ct_sini4 {a0 : Array Value} {Z : State} (hw : ∀ d ∈ tables_1, d.before a0 Z = true) (l : Launch) (nar kn : Bool) (hnr : nar = false) (h0 : Heap) (s a : Addr) (cs : List Int32) (Es : Exa Z h0 s "java/lang/String") (Fc : Fld Z h0 s "java/lang/String" "coder" "B" (.int 0)) (Fv : Fld Z h0 s "java/lang/String" "value" "[B" .null) (Fa : Ar Z h0 a .char (cs.map Value.int)) (hcap : cs.length ≤ 4000) (hcs : ∀ c ∈ cs, ¬ c < 0 ∧ ¬ 255 < c) (cz : Int32) (O : Sta Z Z.heap "java/lang/String" "COMPACT_STRINGS" "Z" (.int cz)) (hcz : ¬ cz = 0) :
    Ct l Z EL1 (⟨"java/lang/String", "<init>", "([CIILjava/lang/Void;)V"⟩ : MethodName) jdk_42_method_149_code 6 (Option.none : Option Jvm.ClassFile.FieldType) ({ frames := 2, cells := 4, slots := 8 + cs.length, locals := 35 } : Room) #[.ref s, .ref a, .int (0 : Int32), .int (Int32.ofNat cs.length), .null] h0 [s] nar kn (fun v h sn => v = none ∧ sn = [] ∧ ∃ t, Str Z h s t (cs.map b8)) := by
  refine Ct.intro (plainFor_of_name pn_java_lang_String) (ew hw) (ef_sini4 s a cs) ?_
  intro x hl hn0 hkn hsf hh H0
  have hnar : x.nar = false := hn0.trans hnr
  have H0 : Hr x (b_sini4 cs.length) Z EL1 0 0 h0 [s] 0 #[.val (.ref s), .val (.ref a), .val (.int (0 : Int32)), .val (.int (Int32.ofNat cs.length)), .val (.null), .unset] [] := H0
  have H1 : Hr x (b_sini4 cs.length) Z EL1 0 0 h0 [s] 1 #[.val (.ref s), .val (.ref a), .val (.int (0 : Int32)), .val (.int (Int32.ofNat cs.length)), .val (.null), .unset] [.ref s] := H0.aloadN d_sini4_0
  have H2 : Hr x (b_sini4 cs.length) Z EL1 0 0 h0 [s] 4 #[.val (.ref s), .val (.ref a), .val (.int (0 : Int32)), .val (.int (Int32.ofNat cs.length)), .val (.null), .unset] [] := H1.initO (Wr := 0) (w11 hw) (w12 hw) (w13 hw) d_sini4_1 (hf := by first | (simp [b_sini4, Bx.R]; done) | (simp [b_sini4, Bx.R]; omega)) (hl := by first | (simp [b_sini4, Bx.R]; done) | (simp [b_sini4, Bx.R]; omega))
  have H3 : Hr x (b_sini4 cs.length) Z EL1 0 0 h0 [s] 5 #[.val (.ref s), .val (.ref a), .val (.int (0 : Int32)), .val (.int (Int32.ofNat cs.length)), .val (.null), .unset] [.int (Int32.ofNat cs.length)] := H2.iloadN d_sini4_4
  by_cases hz : cs.length = 0
  · obtain rfl : cs = [] := List.length_eq_zero_iff.mp hz
    have H4 : Hr x (b_sini4 ([] : List Int32).length) Z EL1 0 0 h0 [s] 8 #[.val (.ref s), .val (.ref a), .val (.int (0 : Int32)), .val (.int (Int32.ofNat ([] : List Int32).length)), .val (.null), .unset] [] := H3.ifF d_sini4_5 (XT.i0_ne_f rfl)
    have H5 : Hr x (b_sini4 ([] : List Int32).length) Z EL1 0 0 h0 [s] 9 #[.val (.ref s), .val (.ref a), .val (.int (0 : Int32)), .val (.int (Int32.ofNat ([] : List Int32).length)), .val (.null), .unset] [.ref s] := H4.aloadN d_sini4_8
    obtain ⟨la, lt, h1, E1, L1, n1, H6⟩ := H5.ldcS (n := 0) (bs := []) (z := 0) (w14 hw) (wStr hw) (ew hw) (by decide) (by decide) (by decide) (by decide) d_sini4_9 (by decide) (by decide) hnar (by first | (simp [b_sini4, Bx.R]; done) | (simp [b_sini4, Bx.R]; omega)) (by first | (simp [b_sini4, Bx.R]; done) | (simp [b_sini4, Bx.R]; omega))
    have H6 : Hr x (b_sini4 ([] : List Int32).length) Z EL1 2 4 h1 [s] 11 #[.val (.ref s), .val (.ref a), .val (.int (0 : Int32)), .val (.int (Int32.ofNat ([] : List Int32).length)), .val (.null), .unset] [.ref la, .ref s] := H6
    have H7 : Hr x (b_sini4 ([] : List Int32).length) Z EL1 2 4 h1 [s] 14 #[.val (.ref s), .val (.ref a), .val (.int (0 : Int32)), .val (.int (Int32.ofNat ([] : List Int32).length)), .val (.null), .unset] [.ref lt, .ref s] := H6.getF (w20 hw) L1.2.2.1 d_sini4_11
    obtain ⟨h2, W2, H8⟩ := H7.putF (List.mem_singleton.mpr rfl) (w20 hw) (Fv.ext E1) (Es.ext E1) (Or.inr ⟨(w16 hw), rfl, rfl⟩) (w1 hw) d_sini4_14 (ty := (.array .byte))
    have H8 : Hr x (b_sini4 ([] : List Int32).length) Z EL1 2 4 h2 [s] 17 #[.val (.ref s), .val (.ref a), .val (.int (0 : Int32)), .val (.int (Int32.ofNat ([] : List Int32).length)), .val (.null), .unset] [] := H8
    have q1 := n1 s (List.mem_singleton.mpr rfl)
    have L2 := L1.other W2 (Ne.symm q1.1) (Ne.symm q1.2)
    have H9 : Hr x (b_sini4 ([] : List Int32).length) Z EL1 2 4 h2 [s] 18 #[.val (.ref s), .val (.ref a), .val (.int (0 : Int32)), .val (.int (Int32.ofNat ([] : List Int32).length)), .val (.null), .unset] [.ref s] := H8.aloadN d_sini4_17
    obtain ⟨lb, lu, h3, E3, L3, n3, H10⟩ := H9.ldcS (n := 0) (bs := []) (z := 0) (w14 hw) (wStr hw) (ew hw) (by decide) (by decide) (by decide) (by decide) d_sini4_18 (by decide) (by decide) hnar (by first | (simp [b_sini4, Bx.R]; done) | (simp [b_sini4, Bx.R]; omega)) (by first | (simp [b_sini4, Bx.R]; done) | (simp [b_sini4, Bx.R]; omega))
    have H10 : Hr x (b_sini4 ([] : List Int32).length) Z EL1 4 8 h3 [s] 20 #[.val (.ref s), .val (.ref a), .val (.int (0 : Int32)), .val (.int (Int32.ofNat ([] : List Int32).length)), .val (.null), .unset] [.ref lb, .ref s] := H10
    have H11 : Hr x (b_sini4 ([] : List Int32).length) Z EL1 4 8 h3 [s] 23 #[.val (.ref s), .val (.ref a), .val (.int (0 : Int32)), .val (.int (Int32.ofNat ([] : List Int32).length)), .val (.null), .unset] [.int (0 : Int32), .ref s] := H10.getF (w21 hw) L3.2.1 d_sini4_20
    have slne := slot_ne (a0 := a0) (C := "java/lang/String") (n := "value") (n' := "coder") (Or.inr (w16 hw)) (Or.inr (w17 hw)) (by decide) (t := .array .byte) (t' := .byte) (by decide) (by decide)
    have Fv2 := Fld.same W2 (Fv.ext E1)
    have Fc2 := Fld.other W2 (Fc.ext E1) (Or.inr (Ne.symm slne))
    obtain ⟨h4, W4, H12⟩ := H11.putF (List.mem_singleton.mpr rfl) (w21 hw) (Fc2.ext E3) ((Es.ext E1).wr W2 |>.ext E3) (Or.inr ⟨(w17 hw), rfl, rfl⟩) (w1 hw) d_sini4_23 (ty := .byte)
    have H12 : Hr x (b_sini4 ([] : List Int32).length) Z EL1 4 8 h4 [s] 26 #[.val (.ref s), .val (.ref a), .val (.int (0 : Int32)), .val (.int (Int32.ofNat ([] : List Int32).length)), .val (.null), .unset] [] := H12
    have q3 := n3 s (List.mem_singleton.mpr rfl)
    have q4 : lt ≠ s := Ne.symm q1.2
    refine H12.finN d_sini4_26 rfl (by first | (simp [b_sini4, Bx.R]; done) | (simp [b_sini4, Bx.R]; omega)) (by first | (simp [b_sini4, Bx.R]; done) | (simp [b_sini4, Bx.R]; omega)) sub0 ⟨rfl, rfl, lt, ((Es.ext E1).wr W2 |>.ext E3).wr W4, Fld.same W4 (Fc2.ext E3), (Fv2.ext E3).other W4 (Or.inr slne), ((L2.2.2.2).ext E3).other W4 q4⟩
  · have hn0 : ¬ Int32.ofNat cs.length = 0 := fun q => hz (by have := congrArg Int32.toInt q; rw [toInt_of rfl (by omega)] at this; simpa using this)
    have H13 : Hr x (b_sini4 cs.length) Z EL1 0 0 h0 [s] 27 #[.val (.ref s), .val (.ref a), .val (.int (0 : Int32)), .val (.int (Int32.ofNat cs.length)), .val (.null), .unset] [] := H3.ifT d_sini4_5 (XT.i0_ne_t hn0)
    have H14 : Hr x (b_sini4 cs.length) Z EL1 0 0 h0 [s] 30 #[.val (.ref s), .val (.ref a), .val (.int (0 : Int32)), .val (.int (Int32.ofNat cs.length)), .val (.null), .unset] [.int cz] := H13.getS (w67 hw) (O.ext H13.old) d_sini4_27
    have H15 : Hr x (b_sini4 cs.length) Z EL1 0 0 h0 [s] 33 #[.val (.ref s), .val (.ref a), .val (.int (0 : Int32)), .val (.int (Int32.ofNat cs.length)), .val (.null), .unset] [] := H14.ifF d_sini4_30 (XT.i0_eq_f hcz)
    have H16 : Hr x (b_sini4 cs.length) Z EL1 0 0 h0 [s] 34 #[.val (.ref s), .val (.ref a), .val (.int (0 : Int32)), .val (.int (Int32.ofNat cs.length)), .val (.null), .unset] [.ref a] := H15.aloadN d_sini4_33
    have H17 : Hr x (b_sini4 cs.length) Z EL1 0 0 h0 [s] 35 #[.val (.ref s), .val (.ref a), .val (.int (0 : Int32)), .val (.int (Int32.ofNat cs.length)), .val (.null), .unset] [.int (0 : Int32), .ref a] := H16.iloadN d_sini4_34
    have H18 : Hr x (b_sini4 cs.length) Z EL1 0 0 h0 [s] 36 #[.val (.ref s), .val (.ref a), .val (.int (0 : Int32)), .val (.int (Int32.ofNat cs.length)), .val (.null), .unset] [.int (Int32.ofNat cs.length), .int (0 : Int32), .ref a] := H17.iloadN d_sini4_35
    obtain ⟨_, h1, _, ⟨t, rfl, ht, rfl, Ft⟩, K1, H19⟩ := H18.callS (argsL := [.ref a, .int (0 : Int32), .int (Int32.ofNat cs.length)]) (rest := []) (Wr := 0) (ct_cmp3 hw x.l x.nar x.kn hnar h0 a cs Fa hcap hcs) sub0 (w224 hw) (w225 hw) (w226 hw) (w227 hw) d_sini4_36 pd_cmp3 rfl (hf := by first | (simp [b_sini4, Bx.R]; done) | (simp [b_sini4, Bx.R]; omega)) (hl := by first | (simp [b_sini4, Bx.R]; done) | (simp [b_sini4, Bx.R]; omega)) (hc := by first | (simp [b_sini4, Bx.R]; done) | (simp [b_sini4, Bx.R]; omega)) (hs := by first | (simp [b_sini4, Bx.R]; done) | (simp [b_sini4, Bx.R]; omega))
    have H19 : Hr x (b_sini4 cs.length) Z EL1 1 (0 + cs.length) h1 [t, s] 39 #[.val (.ref s), .val (.ref a), .val (.int (0 : Int32)), .val (.int (Int32.ofNat cs.length)), .val (.null), .unset] [.ref t] := H19
    have H20 : Hr x (b_sini4 cs.length) Z EL1 1 (0 + cs.length) h1 [t, s] 41 #[.val (.ref s), .val (.ref a), .val (.int (0 : Int32)), .val (.int (Int32.ofNat cs.length)), .val (.null), .val (.ref t)] [] := H19.astore d_sini4_39
    have H21 : Hr x (b_sini4 cs.length) Z EL1 1 (0 + cs.length) h1 [t, s] 42 #[.val (.ref s), .val (.ref a), .val (.int (0 : Int32)), .val (.int (Int32.ofNat cs.length)), .val (.null), .val (.ref t)] [.ref s] := H20.aloadN d_sini4_41
    have H22 : Hr x (b_sini4 cs.length) Z EL1 1 (0 + cs.length) h1 [t, s] 44 #[.val (.ref s), .val (.ref a), .val (.int (0 : Int32)), .val (.int (Int32.ofNat cs.length)), .val (.null), .val (.ref t)] [.ref t, .ref s] := H21.aload d_sini4_42
    have H23 : Hr x (b_sini4 cs.length) Z EL1 1 (0 + cs.length) h1 [t, s] 45 #[.val (.ref s), .val (.ref a), .val (.int (0 : Int32)), .val (.int (Int32.ofNat cs.length)), .val (.null), .val (.ref t)] [.int (Int32.ofNat cs.length), .ref t, .ref s] := H22.iloadN d_sini4_44
    obtain ⟨_, h2, _, ⟨rfl, rfl, e2⟩, K2, H24⟩ := H23.callS (argsL := [.ref t, .int (Int32.ofNat cs.length)]) (rest := [.ref s]) (Wr := 1) (ct_cfal hw x.l x.nar x.kn hnar h1 t (cs.map fun c => Value.int (b8 c)) cs.length (by simp) Ft) sub0 (w231 hw) (w232 hw) (w226 hw) (w233 hw) d_sini4_45 pd_cfal rfl (hf := by first | (simp [b_sini4, Bx.R]; done) | (simp [b_sini4, Bx.R]; omega)) (hl := by first | (simp [b_sini4, Bx.R]; done) | (simp [b_sini4, Bx.R]; omega)) (hc := by first | (simp [b_sini4, Bx.R]; done) | (simp [b_sini4, Bx.R]; omega)) (hs := by first | (simp [b_sini4, Bx.R]; done) | (simp [b_sini4, Bx.R]; omega))
    rw [e2] at H24
    have H24 : Hr x (b_sini4 cs.length) Z EL1 1 (0 + cs.length + 0) h1 [t, s] 48 #[.val (.ref s), .val (.ref a), .val (.int (0 : Int32)), .val (.int (Int32.ofNat cs.length)), .val (.null), .val (.ref t)] [.int (0 : Int32), .ref s] := H24
    have hlt := exa_lt Es
    have hst : @Ne Nat s t := by omega
    have slne := slot_ne (a0 := a0) (C := "java/lang/String") (n := "value") (n' := "coder") (Or.inr (w16 hw)) (Or.inr (w17 hw)) (by decide) (t := .array .byte) (t' := .byte) (by decide) (by decide)
    obtain ⟨h3, W3, H25⟩ := H24.putF (by simp) (w21 hw) (Fc.keep K1 nin0) (Es.keep K1) (Or.inr ⟨(w17 hw), rfl, rfl⟩) (w1 hw) d_sini4_48 (ty := .byte)
    have H25 : Hr x (b_sini4 cs.length) Z EL1 1 (0 + cs.length + 0) h3 [t, s] 51 #[.val (.ref s), .val (.ref a), .val (.int (0 : Int32)), .val (.int (Int32.ofNat cs.length)), .val (.null), .val (.ref t)] [] := H25
    have H26 : Hr x (b_sini4 cs.length) Z EL1 1 (0 + cs.length + 0) h3 [t, s] 52 #[.val (.ref s), .val (.ref a), .val (.int (0 : Int32)), .val (.int (Int32.ofNat cs.length)), .val (.null), .val (.ref t)] [.ref s] := H25.aloadN d_sini4_51
    have H27 : Hr x (b_sini4 cs.length) Z EL1 1 (0 + cs.length + 0) h3 [t, s] 54 #[.val (.ref s), .val (.ref a), .val (.int (0 : Int32)), .val (.int (Int32.ofNat cs.length)), .val (.null), .val (.ref t)] [.ref t, .ref s] := H26.aload d_sini4_52
    obtain ⟨h4, W4, H28⟩ := H27.putF (by simp) (w20 hw) ((Fv.keep K1 nin0).other W3 (Or.inr slne)) ((Es.keep K1).wr W3) (Or.inr ⟨(w16 hw), rfl, rfl⟩) (w1 hw) d_sini4_54 (ty := (.array .byte))
    have H28 : Hr x (b_sini4 cs.length) Z EL1 1 (0 + cs.length + 0) h4 [t, s] 57 #[.val (.ref s), .val (.ref a), .val (.int (0 : Int32)), .val (.int (Int32.ofNat cs.length)), .val (.null), .val (.ref t)] [] := H28
    refine H28.finN d_sini4_57 rfl (by first | (simp [b_sini4, Bx.R]; done) | (simp [b_sini4, Bx.R]; omega)) (by first | (simp [b_sini4, Bx.R]; done) | (simp [b_sini4, Bx.R]; omega)) sub0 ⟨rfl, rfl, t, ((Es.keep K1).wr W3).wr W4, (Fld.same W3 (Fc.keep K1 nin0)).other W4 (Or.inr (Ne.symm slne)), Fld.same W4 ((Fv.keep K1 nin0).other W3 (Or.inr slne)), ?_⟩
    have := (Ft.other W3 (Ne.symm hst)).other W4 (Ne.symm hst); simpa [List.map_map, Function.comp_def] using this
def b_sini1 (n : Nat) : Bx := (({ frames := 3, cells := 4, slots := 8 + n, locals := 52 } : Room), (⟨"java/lang/String", "<init>", "([C)V"⟩ : MethodName), jdk_42_method_3_code, 2, (Option.none : Option Jvm.ClassFile.FieldType))
theorem ef_sini1 (s a : Addr) (mI : MethodId) : entryFrame mI #[.ref s, .ref a] 2 = mkF mI 0 #[.val (.ref s), .val (.ref a)] [] := by first | (simp [entryFrame, mkF, argsToLocals, Value.category]; done) | rfl
theorem pd_sini1 : parseMethodDescriptor "([C)V" = some ⟨[(.array .char)], none⟩ := by decide +kernel
set_option maxRecDepth 65536 in
set_option maxHeartbeats 4000000 in
theorem ct_sini1 {a0 : Array Value} {Z : State} (hw : ∀ d ∈ tables_1, d.before a0 Z = true) (l : Launch) (nar kn : Bool) (hnr : nar = false) (h0 : Heap) (s a : Addr) (cs : List Int32) (Es : Exa Z h0 s "java/lang/String") (Fc : Fld Z h0 s "java/lang/String" "coder" "B" (.int 0)) (Fv : Fld Z h0 s "java/lang/String" "value" "[B" .null) (Fa : Ar Z h0 a .char (cs.map Value.int)) (hcap : cs.length ≤ 4000) (hcs : ∀ c ∈ cs, ¬ c < 0 ∧ ¬ 255 < c) (cz : Int32) (O : Sta Z Z.heap "java/lang/String" "COMPACT_STRINGS" "Z" (.int cz)) (hcz : ¬ cz = 0) :
    Ct l Z EL1 (⟨"java/lang/String", "<init>", "([C)V"⟩ : MethodName) jdk_42_method_3_code 2 (Option.none : Option Jvm.ClassFile.FieldType) ({ frames := 3, cells := 4, slots := 8 + cs.length, locals := 52 } : Room) #[.ref s, .ref a] h0 [s] nar kn (fun v h sn => v = none ∧ sn = [] ∧ ∃ t, Str Z h s t (cs.map b8)) := by
  refine Ct.intro (plainFor_of_name pn_java_lang_String) (ew hw) (ef_sini1 s a) ?_
  intro x hl hn0 hkn hsf hh H0
  have hnar : x.nar = false := hn0.trans hnr
  have H0 : Hr x (b_sini1 cs.length) Z EL1 0 0 h0 [s] 0 #[.val (.ref s), .val (.ref a)] [] := H0
  have H1 : Hr x (b_sini1 cs.length) Z EL1 0 0 h0 [s] 1 #[.val (.ref s), .val (.ref a)] [.ref s] := H0.aloadN d_sini1_0
  have H2 : Hr x (b_sini1 cs.length) Z EL1 0 0 h0 [s] 2 #[.val (.ref s), .val (.ref a)] [.ref a, .ref s] := H1.aloadN d_sini1_1
  have H3 : Hr x (b_sini1 cs.length) Z EL1 0 0 h0 [s] 3 #[.val (.ref s), .val (.ref a)] [.int (0 : Int32), .ref a, .ref s] := H2.iconst d_sini1_2
  have H4 : Hr x (b_sini1 cs.length) Z EL1 0 0 h0 [s] 4 #[.val (.ref s), .val (.ref a)] [.ref a, .int (0 : Int32), .ref a, .ref s] := H3.aloadN d_sini1_3
  have H5 : Hr x (b_sini1 cs.length) Z EL1 0 0 h0 [s] 5 #[.val (.ref s), .val (.ref a)] [.int (Int32.ofNat cs.length), .int (0 : Int32), .ref a, .ref s] := H4.arraylength Fa d_sini1_4 (hn := (by simp))
  have H6 : Hr x (b_sini1 cs.length) Z EL1 0 0 h0 [s] 6 #[.val (.ref s), .val (.ref a)] [.null, .int (Int32.ofNat cs.length), .int (0 : Int32), .ref a, .ref s] := H5.aconstNull d_sini1_5
  obtain ⟨_, h1, _, ⟨rfl, rfl, t, Fs⟩, K1, H7⟩ := H6.callI (argsL := [.ref a, .int (0 : Int32), .int (Int32.ofNat cs.length), .null]) (rest := []) (Wr := 0) (a := s) (ct_sini4 hw x.l x.nar x.kn hnar h0 s a cs Es Fc Fv Fa hcap hcs cz O hcz) (sub1 (List.mem_singleton.mpr rfl)) (w7 hw) (w8 hw) (w2 hw) (w10 hw) d_sini1_6 pd_sini4 rfl (hf := by first | (simp [b_sini1, Bx.R]; done) | (simp [b_sini1, Bx.R]; omega)) (hl := by first | (simp [b_sini1, Bx.R]; done) | (simp [b_sini1, Bx.R]; omega)) (hc := by first | (simp [b_sini1, Bx.R]; done) | (simp [b_sini1, Bx.R]; omega)) (hs := by first | (simp [b_sini1, Bx.R]; done) | (simp [b_sini1, Bx.R]; omega))
  have H7 : Hr x (b_sini1 cs.length) Z EL1 4 (0 + (8 + cs.length)) h1 [s] 9 #[.val (.ref s), .val (.ref a)] [] := H7
  exact H7.finN d_sini1_9 rfl (by first | (simp [b_sini1, Bx.R]; done) | (simp [b_sini1, Bx.R]; omega)) (by first | (simp [b_sini1, Bx.R]; done) | (simp [b_sini1, Bx.R]; omega)) sub0 ⟨rfl, rfl, t, Fs⟩
def b_scod : Bx := (({ frames := 0, cells := 0, slots := 0, locals := 0 } : Room), (⟨"java/lang/String", "coder", "()B"⟩ : MethodName), jdk_42_method_152_code, 1, (Option.some Jvm.ClassFile.FieldType.byte))
theorem ef_scod (a : Addr) (mI : MethodId) : entryFrame mI #[.ref a] 1 = mkF mI 0 #[.val (.ref a)] [] := by first | (simp [entryFrame, mkF, argsToLocals, Value.category]; done) | rfl
theorem pd_scod : parseMethodDescriptor "()B" = some ⟨[], some .byte⟩ := by decide +kernel
set_option maxRecDepth 65536 in
set_option maxHeartbeats 4000000 in
theorem ct_scod {a0 : Array Value} {Z : State} (hw : ∀ d ∈ tables_1, d.before a0 Z = true) (l : Launch) (nar kn : Bool) (hnr : nar = false) (h0 : Heap) (a t : Addr) (bs : List Int32) (Fa : Str Z h0 a t bs) (cz : Int32) (O : Sta Z Z.heap "java/lang/String" "COMPACT_STRINGS" "Z" (.int cz)) (hcz : ¬ cz = 0) :
    Ct l Z EL1 (⟨"java/lang/String", "coder", "()B"⟩ : MethodName) jdk_42_method_152_code 1 (Option.some Jvm.ClassFile.FieldType.byte) ({ frames := 0, cells := 0, slots := 0, locals := 0 } : Room) #[.ref a] h0 [] nar kn (fun v h sn => v = some (.int 0) ∧ sn = [] ∧ h = h0) := by
  refine Ct.intro (plainFor_of_name pn_java_lang_String) (ew hw) (ef_scod a) ?_
  intro x hl hn0 hkn hsf hh H0
  have hnar : x.nar = false := hn0.trans hnr
  have H0 : Hr x b_scod Z EL1 0 0 h0 [] 0 #[.val (.ref a)] [] := H0
  have H1 : Hr x b_scod Z EL1 0 0 h0 [] 3 #[.val (.ref a)] [.int cz] := H0.getS (w67 hw) (O.ext H0.old) d_scod_0
  have H2 : Hr x b_scod Z EL1 0 0 h0 [] 6 #[.val (.ref a)] [] := H1.ifF d_scod_3 (XT.i0_eq_f hcz)
  have H3 : Hr x b_scod Z EL1 0 0 h0 [] 7 #[.val (.ref a)] [.ref a] := H2.aloadN d_scod_6
  have H4 : Hr x b_scod Z EL1 0 0 h0 [] 10 #[.val (.ref a)] [.int (0 : Int32)] := H3.getF (w21 hw) Fa.2.1 d_scod_7
  have H5 : Hr x b_scod Z EL1 0 0 h0 [] 14 #[.val (.ref a)] [.int (0 : Int32)] := H4.goto d_scod_10
  exact H5.finZ d_scod_14 (t := .byte) (by first | rfl | decide) ⟨rfl, rfl, rfl⟩ sub0
def b_sil1 : Bx := (({ frames := 0, cells := 0, slots := 0, locals := 0 } : Room), (⟨"java/lang/String", "isLatin1", "()Z"⟩ : MethodName), jdk_42_method_154_code, 1, (Option.some Jvm.ClassFile.FieldType.boolean))
theorem ef_sil1 (a : Addr) (mI : MethodId) : entryFrame mI #[.ref a] 1 = mkF mI 0 #[.val (.ref a)] [] := by first | (simp [entryFrame, mkF, argsToLocals, Value.category]; done) | rfl
theorem pd_sil1 : parseMethodDescriptor "()Z" = some ⟨[], some .boolean⟩ := by decide +kernel
set_option maxRecDepth 65536 in
set_option maxHeartbeats 4000000 in
theorem ct_sil1 {a0 : Array Value} {Z : State} (hw : ∀ d ∈ tables_1, d.before a0 Z = true) (l : Launch) (nar kn : Bool) (hnr : nar = false) (h0 : Heap) (a t : Addr) (bs : List Int32) (Fa : Str Z h0 a t bs) (cz : Int32) (O : Sta Z Z.heap "java/lang/String" "COMPACT_STRINGS" "Z" (.int cz)) (hcz : ¬ cz = 0) :
    Ct l Z EL1 (⟨"java/lang/String", "isLatin1", "()Z"⟩ : MethodName) jdk_42_method_154_code 1 (Option.some Jvm.ClassFile.FieldType.boolean) ({ frames := 0, cells := 0, slots := 0, locals := 0 } : Room) #[.ref a] h0 [] nar kn (fun v h sn => v = some (.int 1) ∧ sn = [] ∧ h = h0) := by
  refine Ct.intro (plainFor_of_name pn_java_lang_String) (ew hw) (ef_sil1 a) ?_
  intro x hl hn0 hkn hsf hh H0
  have hnar : x.nar = false := hn0.trans hnr
  have H0 : Hr x b_sil1 Z EL1 0 0 h0 [] 0 #[.val (.ref a)] [] := H0
  have H1 : Hr x b_sil1 Z EL1 0 0 h0 [] 3 #[.val (.ref a)] [.int cz] := H0.getS (w67 hw) (O.ext H0.old) d_sil1_0
  have H2 : Hr x b_sil1 Z EL1 0 0 h0 [] 6 #[.val (.ref a)] [] := H1.ifF d_sil1_3 (XT.i0_eq_f hcz)
  have H3 : Hr x b_sil1 Z EL1 0 0 h0 [] 7 #[.val (.ref a)] [.ref a] := H2.aloadN d_sil1_6
  have H4 : Hr x b_sil1 Z EL1 0 0 h0 [] 10 #[.val (.ref a)] [.int (0 : Int32)] := H3.getF (w21 hw) Fa.2.1 d_sil1_7
  have H5 : Hr x b_sil1 Z EL1 0 0 h0 [] 13 #[.val (.ref a)] [] := H4.ifF d_sil1_10 (XT.i0_ne_f rfl)
  have H6 : Hr x b_sil1 Z EL1 0 0 h0 [] 14 #[.val (.ref a)] [.int (1 : Int32)] := H5.iconst d_sil1_13
  have H7 : Hr x b_sil1 Z EL1 0 0 h0 [] 18 #[.val (.ref a)] [.int (1 : Int32)] := H6.goto d_sil1_14
  exact H7.finZ d_sil1_18 (t := .boolean) (by first | rfl | decide) ⟨rfl, rfl, rfl⟩ sub0
def b_slen : Bx := (({ frames := 1, cells := 0, slots := 0, locals := 13 } : Room), (⟨"java/lang/String", "length", "()I"⟩ : MethodName), jdk_42_method_54_code, 1, (Option.some Jvm.ClassFile.FieldType.int))
theorem ef_slen (a : Addr) (mI : MethodId) : entryFrame mI #[.ref a] 1 = mkF mI 0 #[.val (.ref a)] [] := by first | (simp [entryFrame, mkF, argsToLocals, Value.category]; done) | rfl
theorem pd_slen : parseMethodDescriptor "()I" = some ⟨[], some .int⟩ := by decide +kernel
set_option maxRecDepth 65536 in
set_option maxHeartbeats 4000000 in
theorem ct_slen {a0 : Array Value} {Z : State} (hw : ∀ d ∈ tables_1, d.before a0 Z = true) (l : Launch) (nar kn : Bool) (hnr : nar = false) (h0 : Heap) (a t : Addr) (bs : List Int32) (Fa : Str Z h0 a t bs) (cz : Int32) (O : Sta Z Z.heap "java/lang/String" "COMPACT_STRINGS" "Z" (.int cz)) (hcz : ¬ cz = 0) :
    Ct l Z EL1 (⟨"java/lang/String", "length", "()I"⟩ : MethodName) jdk_42_method_54_code 1 (Option.some Jvm.ClassFile.FieldType.int) ({ frames := 1, cells := 0, slots := 0, locals := 13 } : Room) #[.ref a] h0 [] nar kn (fun v h sn => v = some (.int (Int32.ofNat bs.length)) ∧ sn = [] ∧ h = h0) := by
  refine Ct.intro (plainFor_of_name pn_java_lang_String) (ew hw) (ef_slen a) ?_
  intro x hl hn0 hkn hsf hh H0
  have hnar : x.nar = false := hn0.trans hnr
  have H0 : Hr x b_slen Z EL1 0 0 h0 [] 0 #[.val (.ref a)] [] := H0
  have H1 : Hr x b_slen Z EL1 0 0 h0 [] 1 #[.val (.ref a)] [.ref a] := H0.aloadN d_slen_0
  have H2 : Hr x b_slen Z EL1 0 0 h0 [] 4 #[.val (.ref a)] [.ref t] := H1.getF (w20 hw) Fa.2.2.1 d_slen_1
  have H3 : Hr x b_slen Z EL1 0 0 h0 [] 5 #[.val (.ref a)] [.int (Int32.ofNat bs.length)] := H2.arraylength Fa.2.2.2 d_slen_4 (hn := (by simp))
  have H4 : Hr x b_slen Z EL1 0 0 h0 [] 6 #[.val (.ref a)] [.ref a, .int (Int32.ofNat bs.length)] := H3.aloadN d_slen_5
  obtain ⟨_, h1, _, ⟨rfl, rfl, e1⟩, K1, H5⟩ := H4.callV (argsL := []) (rest := [.int (Int32.ofNat bs.length)]) (Wr := 1) (a := a) (ct_scod hw x.l x.nar x.kn hnar h0 a t bs Fa cz O hcz) sub0 Fa.1 (w62 hw) (w63 hw) (w65 hw) (w65 hw) (w64 hw) (w2 hw) (w66 hw) d_slen_6 pd_scod rfl (hf := by first | decide | (simp [b_slen, Bx.R]; done) | (simp [b_slen, Bx.R]; omega)) (hl := by first | decide | (simp [b_slen, Bx.R]; done) | (simp [b_slen, Bx.R]; omega)) (hc := by first | decide | (simp [b_slen, Bx.R]; done) | (simp [b_slen, Bx.R]; omega)) (hs := by first | decide | (simp [b_slen, Bx.R]; done) | (simp [b_slen, Bx.R]; omega))
  rw [e1] at H5
  have H5 : Hr x b_slen Z EL1 0 0 h0 [] 9 #[.val (.ref a)] [.int (0 : Int32), .int (Int32.ofNat bs.length)] := H5
  have H6 : Hr x b_slen Z EL1 0 0 h0 [] 10 #[.val (.ref a)] [.int (Int32.ofNat bs.length)] := H5.ishr d_slen_9 (hv := (shr0 _))
  exact H6.finI d_slen_10 ⟨rfl, rfl, rfl⟩ sub0
def b_pcix : Bx := (({ frames := 0, cells := 0, slots := 0, locals := 0 } : Room), (⟨"jdk/internal/util/Preconditions", "checkIndex", "(IILjava/util/function/BiFunction;)I"⟩ : MethodName), jdk_41_method_11_code, 3, (Option.some Jvm.ClassFile.FieldType.int))
theorem ef_pcix (i n : Nat) (f : Value) (hf : f.category = 1) (mI : MethodId) : entryFrame mI #[.int (Int32.ofNat i), .int (Int32.ofNat n), f] 3 = mkF mI 0 #[.val (.int (Int32.ofNat i)), .val (.int (Int32.ofNat n)), .val (f)] [] := by first | rfl | (simp [entryFrame, mkF, argsToLocals, Value.category, hf]; done) | (simp [entryFrame, mkF, argsToLocals, hf]; rfl)
theorem pn_jdk_internal_util_Preconditions : plainName "jdk/internal/util/Preconditions" = true := by first | (simp [plainName, overriddenIn]; done) | decide +kernel
theorem pd_pcix : parseMethodDescriptor "(IILjava/util/function/BiFunction;)I" = some ⟨[.int, .int, (.object "java/util/function/BiFunction")], some .int⟩ := by decide +kernel
set_option maxRecDepth 65536 in
set_option maxHeartbeats 4000000 in
theorem ct_pcix {a0 : Array Value} {Z : State} (hw : ∀ d ∈ tables_1, d.before a0 Z = true) (l : Launch) (nar kn : Bool) (hnr : nar = false) (h0 : Heap) (i n : Nat) (hi : i < n) (hn : n < 2147483648) (f : Value) (hf : f.category = 1) :
    Ct l Z EL1 (⟨"jdk/internal/util/Preconditions", "checkIndex", "(IILjava/util/function/BiFunction;)I"⟩ : MethodName) jdk_41_method_11_code 3 (Option.some Jvm.ClassFile.FieldType.int) ({ frames := 0, cells := 0, slots := 0, locals := 0 } : Room) #[.int (Int32.ofNat i), .int (Int32.ofNat n), f] h0 [] nar kn (fun v h sn => v = some (.int (Int32.ofNat i)) ∧ sn = [] ∧ h = h0) := by
  refine Ct.intro (plainFor_of_name pn_jdk_internal_util_Preconditions) (ew hw) (ef_pcix i n f hf) ?_
  intro x hl hn0 hkn hsf hh H0
  have hnar : x.nar = false := hn0.trans hnr
  have H0 : Hr x b_pcix Z EL1 0 0 h0 [] 0 #[.val (.int (Int32.ofNat i)), .val (.int (Int32.ofNat n)), .val (f)] [] := H0
  have hlt : Int32.ofNat i < Int32.ofNat n := by rw [Int32.lt_iff_toInt_lt, toInt_of rfl (by omega), toInt_of rfl (by omega)]; omega
  have H1 : Hr x b_pcix Z EL1 0 0 h0 [] 1 #[.val (.int (Int32.ofNat i)), .val (.int (Int32.ofNat n)), .val (f)] [.int (Int32.ofNat i)] := H0.iloadN d_pcix_0
  have H2 : Hr x b_pcix Z EL1 0 0 h0 [] 4 #[.val (.int (Int32.ofNat i)), .val (.int (Int32.ofNat n)), .val (f)] [] := H1.ifF d_pcix_1 (XT.i0_lt_f (nn32 (by omega)))
  have H3 : Hr x b_pcix Z EL1 0 0 h0 [] 5 #[.val (.int (Int32.ofNat i)), .val (.int (Int32.ofNat n)), .val (f)] [.int (Int32.ofNat i)] := H2.iloadN d_pcix_4
  have H4 : Hr x b_pcix Z EL1 0 0 h0 [] 6 #[.val (.int (Int32.ofNat i)), .val (.int (Int32.ofNat n)), .val (f)] [.int (Int32.ofNat n), .int (Int32.ofNat i)] := H3.iloadN d_pcix_5
  have H5 : Hr x b_pcix Z EL1 0 0 h0 [] 16 #[.val (.int (Int32.ofNat i)), .val (.int (Int32.ofNat n)), .val (f)] [] := H4.icmpT d_pcix_6 (XT.ii_lt_t hlt)
  have H6 : Hr x b_pcix Z EL1 0 0 h0 [] 17 #[.val (.int (Int32.ofNat i)), .val (.int (Int32.ofNat n)), .val (f)] [.int (Int32.ofNat i)] := H5.iloadN d_pcix_16
  exact H6.finI d_pcix_17 ⟨rfl, rfl, rfl⟩ sub0
def b_scix : Bx := (({ frames := 1, cells := 0, slots := 0, locals := 14 } : Room), (⟨"java/lang/String", "checkIndex", "(II)V"⟩ : MethodName), jdk_42_method_155_code, 2, (Option.none : Option Jvm.ClassFile.FieldType))
theorem ef_scix (i n : Nat) (mI : MethodId) : entryFrame mI #[.int (Int32.ofNat i), .int (Int32.ofNat n)] 2 = mkF mI 0 #[.val (.int (Int32.ofNat i)), .val (.int (Int32.ofNat n))] [] := by first | (simp [entryFrame, mkF, argsToLocals, Value.category]; done) | rfl
theorem pd_scix : parseMethodDescriptor "(II)V" = some ⟨[.int, .int], none⟩ := by decide +kernel
set_option maxRecDepth 65536 in
set_option maxHeartbeats 4000000 in
theorem ct_scix {a0 : Array Value} {Z : State} (hw : ∀ d ∈ tables_1, d.before a0 Z = true) (l : Launch) (nar kn : Bool) (hnr : nar = false) (h0 : Heap) (i n : Nat) (hi : i < n) (hn : n < 2147483648) (f : Value) (hfr : f.isRef = true) (P : Sta Z Z.heap "jdk/internal/util/Preconditions" "SIOOBE_FORMATTER" "Ljava/util/function/BiFunction;" f)  :
    Ct l Z EL1 (⟨"java/lang/String", "checkIndex", "(II)V"⟩ : MethodName) jdk_42_method_155_code 2 (Option.none : Option Jvm.ClassFile.FieldType) ({ frames := 1, cells := 0, slots := 0, locals := 14 } : Room) #[.int (Int32.ofNat i), .int (Int32.ofNat n)] h0 [] nar kn (fun v h sn => v = none ∧ sn = [] ∧ h = h0) := by
  refine Ct.intro (plainFor_of_name pn_java_lang_String) (ew hw) (ef_scix i n) ?_
  intro x hl hn0 hkn hsf hh H0
  have hnar : x.nar = false := hn0.trans hnr
  have H0 : Hr x b_scix Z EL1 0 0 h0 [] 0 #[.val (.int (Int32.ofNat i)), .val (.int (Int32.ofNat n))] [] := H0
  have hfc : f.category = 1 := by rcases ref_cases hfr with rfl | ⟨a, rfl⟩ <;> rfl
  have H1 : Hr x b_scix Z EL1 0 0 h0 [] 1 #[.val (.int (Int32.ofNat i)), .val (.int (Int32.ofNat n))] [.int (Int32.ofNat i)] := H0.iloadN d_scix_0
  have H2 : Hr x b_scix Z EL1 0 0 h0 [] 2 #[.val (.int (Int32.ofNat i)), .val (.int (Int32.ofNat n))] [.int (Int32.ofNat n), .int (Int32.ofNat i)] := H1.iloadN d_scix_1
  have H3 : Hr x b_scix Z EL1 0 0 h0 [] 5 #[.val (.int (Int32.ofNat i)), .val (.int (Int32.ofNat n))] [f, .int (Int32.ofNat n), .int (Int32.ofNat i)] := H2.getS (w219 hw) (P.ext H2.old) d_scix_2
  obtain ⟨_, h1, _, ⟨rfl, rfl, e1⟩, K1, H4⟩ := H3.callS (argsL := [.int (Int32.ofNat i), .int (Int32.ofNat n), f]) (rest := []) (Wr := 0) (ct_pcix hw x.l x.nar x.kn hnar h0 i n hi hn f hfc) sub0 (w221 hw) (w222 hw) (w220 hw) (w223 hw) d_scix_5 pd_pcix rfl (hf := by first | decide | (simp [b_scix, Bx.R]; done) | (simp [b_scix, Bx.R]; omega)) (hl := by first | decide | (simp [b_scix, Bx.R]; done) | (simp [b_scix, Bx.R]; omega)) (hc := by first | decide | (simp [b_scix, Bx.R]; done) | (simp [b_scix, Bx.R]; omega)) (hs := by first | decide | (simp [b_scix, Bx.R]; done) | (simp [b_scix, Bx.R]; omega))
  rw [e1] at H4
  have H4 : Hr x b_scix Z EL1 0 0 h0 [] 8 #[.val (.int (Int32.ofNat i)), .val (.int (Int32.ofNat n))] [.int (Int32.ofNat i)] := H4
  have H5 : Hr x b_scix Z EL1 0 0 h0 [] 9 #[.val (.int (Int32.ofNat i)), .val (.int (Int32.ofNat n))] [] := H4.pop d_scix_8
  exact H5.finN d_scix_9 rfl (by decide) (by decide) sub0 ⟨rfl, rfl, rfl⟩
def b_lcha : Bx := (({ frames := 2, cells := 0, slots := 0, locals := 27 } : Room), (⟨"java/lang/StringLatin1", "charAt", "([BI)C"⟩ : MethodName), jdk_43_method_2_code, 2, (Option.some Jvm.ClassFile.FieldType.char))
theorem ef_lcha (t : Addr) (i : Nat) (mI : MethodId) : entryFrame mI #[.ref t, .int (Int32.ofNat i)] 2 = mkF mI 0 #[.val (.ref t), .val (.int (Int32.ofNat i))] [] := by first | (simp [entryFrame, mkF, argsToLocals, Value.category]; done) | rfl
theorem pn_java_lang_StringLatin1 : plainName "java/lang/StringLatin1" = true := by first | (simp [plainName, overriddenIn]; done) | decide +kernel
theorem pd_lcha : parseMethodDescriptor "([BI)C" = some ⟨[(.array .byte), .int], some .char⟩ := by decide +kernel
set_option maxRecDepth 65536 in
set_option maxHeartbeats 4000000 in
theorem ct_lcha {a0 : Array Value} {Z : State} (hw : ∀ d ∈ tables_1, d.before a0 Z = true) (l : Launch) (nar kn : Bool) (hnr : nar = false) (h0 : Heap) (t : Addr) (i : Nat) (bs : List Int32) (Ft : Ar Z h0 t .byte (bs.map Value.int)) (hi : i < bs.length) (f : Value) (hfr : f.isRef = true) (P : Sta Z Z.heap "jdk/internal/util/Preconditions" "SIOOBE_FORMATTER" "Ljava/util/function/BiFunction;" f)  :
    Ct l Z EL1 (⟨"java/lang/StringLatin1", "charAt", "([BI)C"⟩ : MethodName) jdk_43_method_2_code 2 (Option.some Jvm.ClassFile.FieldType.char) ({ frames := 2, cells := 0, slots := 0, locals := 27 } : Room) #[.ref t, .int (Int32.ofNat i)] h0 [] nar kn (fun v h sn => v = some (.int (u8 (bs.getD i 0))) ∧ sn = [] ∧ h = h0) := by
  refine Ct.intro (plainFor_of_name pn_java_lang_StringLatin1) (ew hw) (ef_lcha t i) ?_
  intro x hl hn0 hkn hsf hh H0
  have hnar : x.nar = false := hn0.trans hnr
  have H0 : Hr x b_lcha Z EL1 0 0 h0 [] 0 #[.val (.ref t), .val (.int (Int32.ofNat i))] [] := H0
  have hlen : bs.length < 2147483648 := by simpa using Ft.len
  have H1 : Hr x b_lcha Z EL1 0 0 h0 [] 1 #[.val (.ref t), .val (.int (Int32.ofNat i))] [.int (Int32.ofNat i)] := H0.iloadN d_lcha_0
  have H2 : Hr x b_lcha Z EL1 0 0 h0 [] 2 #[.val (.ref t), .val (.int (Int32.ofNat i))] [.ref t, .int (Int32.ofNat i)] := H1.aloadN d_lcha_1
  have H3 : Hr x b_lcha Z EL1 0 0 h0 [] 3 #[.val (.ref t), .val (.int (Int32.ofNat i))] [.int (Int32.ofNat bs.length), .int (Int32.ofNat i)] := H2.arraylength Ft d_lcha_2 (hn := (by simp))
  obtain ⟨_, h1, _, ⟨rfl, rfl, e1⟩, K1, H4⟩ := H3.callS (argsL := [.int (Int32.ofNat i), .int (Int32.ofNat bs.length)]) (rest := []) (Wr := 0) (ct_scix hw x.l x.nar x.kn hnar h0 i bs.length hi hlen f hfr P) sub0 (w216 hw) (w217 hw) (w2 hw) (w218 hw) d_lcha_3 pd_scix rfl (hf := by first | decide | (simp [b_lcha, Bx.R]; done) | (simp [b_lcha, Bx.R]; omega)) (hl := by first | decide | (simp [b_lcha, Bx.R]; done) | (simp [b_lcha, Bx.R]; omega)) (hc := by first | decide | (simp [b_lcha, Bx.R]; done) | (simp [b_lcha, Bx.R]; omega)) (hs := by first | decide | (simp [b_lcha, Bx.R]; done) | (simp [b_lcha, Bx.R]; omega))
  rw [e1] at H4
  have H4 : Hr x b_lcha Z EL1 0 0 h0 [] 6 #[.val (.ref t), .val (.int (Int32.ofNat i))] [] := H4
  have H5 : Hr x b_lcha Z EL1 0 0 h0 [] 7 #[.val (.ref t), .val (.int (Int32.ofNat i))] [.ref t] := H4.aloadN d_lcha_6
  have H6 : Hr x b_lcha Z EL1 0 0 h0 [] 8 #[.val (.ref t), .val (.int (Int32.ofNat i))] [.int (Int32.ofNat i), .ref t] := H5.iloadN d_lcha_7
  have H7 : Hr x b_lcha Z EL1 0 0 h0 [] 9 #[.val (.ref t), .val (.int (Int32.ofNat i))] [.int (bs.getD i 0)] := H6.baload Ft d_lcha_8 (i := i) rfl (by simp [List.getD, hi])
  have H8 : Hr x b_lcha Z EL1 0 0 h0 [] 12 #[.val (.ref t), .val (.int (Int32.ofNat i))] [.int (255 : Int32), .int (bs.getD i 0)] := H7.sipush d_lcha_9
  have H9 : Hr x b_lcha Z EL1 0 0 h0 [] 13 #[.val (.ref t), .val (.int (Int32.ofNat i))] [.int ((bs.getD i 0) &&& (255 : Int32))] := H8.iand d_lcha_12
  have H10 : Hr x b_lcha Z EL1 0 0 h0 [] 14 #[.val (.ref t), .val (.int (Int32.ofNat i))] [.int (u8 (bs.getD i 0))] := H9.i2c d_lcha_13
  exact H10.finZ d_lcha_14 (t := .char) (by exact nar_u8 _) ⟨rfl, rfl, rfl⟩ sub0
def b_scha : Bx := (({ frames := 3, cells := 0, slots := 0, locals := 40 } : Room), (⟨"java/lang/String", "charAt", "(I)C"⟩ : MethodName), jdk_42_method_56_code, 2, (Option.some Jvm.ClassFile.FieldType.char))
theorem ef_scha (a : Addr) (i : Nat) (mI : MethodId) : entryFrame mI #[.ref a, .int (Int32.ofNat i)] 2 = mkF mI 0 #[.val (.ref a), .val (.int (Int32.ofNat i))] [] := by first | (simp [entryFrame, mkF, argsToLocals, Value.category]; done) | rfl
theorem pd_scha : parseMethodDescriptor "(I)C" = some ⟨[.int], some .char⟩ := by decide +kernel
set_option maxRecDepth 65536 in
set_option maxHeartbeats 4000000 in
theorem ct_scha {a0 : Array Value} {Z : State} (hw : ∀ d ∈ tables_1, d.before a0 Z = true) (l : Launch) (nar kn : Bool) (hnr : nar = false) (h0 : Heap) (a t : Addr) (i : Nat) (bs : List Int32) (Fa : Str Z h0 a t bs) (hi : i < bs.length) (f : Value) (hfr : f.isRef = true) (P : Sta Z Z.heap "jdk/internal/util/Preconditions" "SIOOBE_FORMATTER" "Ljava/util/function/BiFunction;" f) (cz : Int32) (O : Sta Z Z.heap "java/lang/String" "COMPACT_STRINGS" "Z" (.int cz)) (hcz : ¬ cz = 0) :
    Ct l Z EL1 (⟨"java/lang/String", "charAt", "(I)C"⟩ : MethodName) jdk_42_method_56_code 2 (Option.some Jvm.ClassFile.FieldType.char) ({ frames := 3, cells := 0, slots := 0, locals := 40 } : Room) #[.ref a, .int (Int32.ofNat i)] h0 [] nar kn (fun v h sn => v = some (.int (u8 (bs.getD i 0))) ∧ sn = [] ∧ h = h0) := by
  refine Ct.intro (plainFor_of_name pn_java_lang_String) (ew hw) (ef_scha a i) ?_
  intro x hl hn0 hkn hsf hh H0
  have hnar : x.nar = false := hn0.trans hnr
  have H0 : Hr x b_scha Z EL1 0 0 h0 [] 0 #[.val (.ref a), .val (.int (Int32.ofNat i))] [] := H0
  have H1 : Hr x b_scha Z EL1 0 0 h0 [] 1 #[.val (.ref a), .val (.int (Int32.ofNat i))] [.ref a] := H0.aloadN d_scha_0
  obtain ⟨_, h1, _, ⟨rfl, rfl, e1⟩, K1, H2⟩ := H1.callV (argsL := []) (rest := []) (Wr := 0) (a := a) (ct_sil1 hw x.l x.nar x.kn hnar h0 a t bs Fa cz O hcz) sub0 Fa.1 (w207 hw) (w208 hw) (w210 hw) (w210 hw) (w209 hw) (w2 hw) (w211 hw) d_scha_1 pd_sil1 rfl (hf := by first | decide | (simp [b_scha, Bx.R]; done) | (simp [b_scha, Bx.R]; omega)) (hl := by first | decide | (simp [b_scha, Bx.R]; done) | (simp [b_scha, Bx.R]; omega)) (hc := by first | decide | (simp [b_scha, Bx.R]; done) | (simp [b_scha, Bx.R]; omega)) (hs := by first | decide | (simp [b_scha, Bx.R]; done) | (simp [b_scha, Bx.R]; omega))
  rw [e1] at H2
  have H2 : Hr x b_scha Z EL1 0 0 h0 [] 4 #[.val (.ref a), .val (.int (Int32.ofNat i))] [.int (1 : Int32)] := H2
  have H3 : Hr x b_scha Z EL1 0 0 h0 [] 7 #[.val (.ref a), .val (.int (Int32.ofNat i))] [] := H2.ifF d_scha_4 (XT.i0_eq_f (by decide))
  have H4 : Hr x b_scha Z EL1 0 0 h0 [] 8 #[.val (.ref a), .val (.int (Int32.ofNat i))] [.ref a] := H3.aloadN d_scha_7
  have H5 : Hr x b_scha Z EL1 0 0 h0 [] 11 #[.val (.ref a), .val (.int (Int32.ofNat i))] [.ref t] := H4.getF (w20 hw) Fa.2.2.1 d_scha_8
  have H6 : Hr x b_scha Z EL1 0 0 h0 [] 12 #[.val (.ref a), .val (.int (Int32.ofNat i))] [.int (Int32.ofNat i), .ref t] := H5.iloadN d_scha_11
  obtain ⟨_, h2, _, ⟨rfl, rfl, e2⟩, K2, H7⟩ := H6.callS (argsL := [.ref t, .int (Int32.ofNat i)]) (rest := []) (Wr := 0) (ct_lcha hw x.l x.nar x.kn hnar h0 t i bs Fa.2.2.2 hi f hfr P) sub0 (w212 hw) (w213 hw) (w214 hw) (w215 hw) d_scha_12 pd_lcha rfl (hf := by first | decide | (simp [b_scha, Bx.R]; done) | (simp [b_scha, Bx.R]; omega)) (hl := by first | decide | (simp [b_scha, Bx.R]; done) | (simp [b_scha, Bx.R]; omega)) (hc := by first | decide | (simp [b_scha, Bx.R]; done) | (simp [b_scha, Bx.R]; omega)) (hs := by first | decide | (simp [b_scha, Bx.R]; done) | (simp [b_scha, Bx.R]; omega))
  rw [e2] at H7
  have H7 : Hr x b_scha Z EL1 0 0 h0 [] 15 #[.val (.ref a), .val (.int (Int32.ofNat i))] [.int (u8 (bs.getD i 0))] := H7
  exact H7.finZ d_scha_15 (t := .char) (by exact nar_u8 _) ⟨rfl, rfl, rfl⟩ sub0
/-- a Latin-1 StringBuilder: it holds bs, and r places are free -/
def Sbd (Z : State) (h : Heap) (s t : Addr) (bs : List Int32) (r : Nat) : Prop := Exa Z h s "java/lang/StringBuilder" ∧ Fld Z h s "java/lang/AbstractStringBuilder" "value" "[B" (.ref t) ∧ Fld Z h s "java/lang/AbstractStringBuilder" "coder" "B" (.int 0) ∧ Fld Z h s "java/lang/AbstractStringBuilder" "count" "I" (.int (Int32.ofNat bs.length)) ∧ Ar Z h t .byte ((bs ++ List.replicate r 0).map Value.int)
theorem Sbd.ext {Z : State} {h h' : Heap} {s t : Addr} {bs : List Int32} {r : Nat} (F : Sbd Z h s t bs r) (E : Ext h h') : Sbd Z h' s t bs r := ⟨F.1.ext E, F.2.1.ext E, F.2.2.1.ext E, F.2.2.2.1.ext E, F.2.2.2.2.ext E⟩
theorem Sbd.keep {Z : State} {h h' : Heap} {s t : Addr} {bs : List Int32} {r : Nat} {ws : List Addr} (F : Sbd Z h s t bs r) (K : Keep h h' ws) (q : s ∉ ws) (q' : t ∉ ws) : Sbd Z h' s t bs r := ⟨F.1.keep K, F.2.1.keep K q, F.2.2.1.keep K q, F.2.2.2.1.keep K q, F.2.2.2.2.keep K q'⟩
theorem Sbd.lt {Z : State} {h : Heap} {s t : Addr} {bs : List Int32} {r : Nat} (F : Sbd Z h s t bs r) : h.size > s := F.1.lt
theorem Sbd.lt' {Z : State} {h : Heap} {s t : Addr} {bs : List Int32} {r : Nat} (F : Sbd Z h s t bs r) : h.size > t := F.2.2.2.2.lt
theorem sub_le {m c : Nat} (h : m ≤ c) (hc : c < 2147483648) : ¬ (0 : Int32) < Int32.ofNat m - Int32.ofNat c := by
  have h1 := c_isub (Int32.ofNat m) (Int32.ofNat c)
  rw [toInt_of (n := Int32.ofNat m) rfl (by omega), toInt_of (n := Int32.ofNat c) rfl (by omega)] at h1
  have h2 := rng32 (Int32.ofNat m - Int32.ofNat c)
  have e1 : (0 : Int32).toInt = 0 := by decide
  rw [Int32.lt_iff_toInt_lt, e1]
  omega
theorem ofNat_add (m n : Nat) : Int32.ofNat m + Int32.ofNat n = Int32.ofNat (m + n) := by
  apply Int32.toBitVec_inj.mp
  simp [Int32.ofNat, Int32.toBitVec, BitVec.ofNat_add]
theorem put_next {bs ds : List Int32} {r : Nat} (h : ds.length ≤ r) : ((bs ++ List.replicate r 0).map Value.int).take bs.length ++ ((ds.map Value.int).drop 0).take ds.length ++ ((bs ++ List.replicate r 0).map Value.int).drop (bs.length + ds.length) = ((bs ++ ds) ++ List.replicate (r - ds.length) 0).map Value.int := by
  have e3 : ((ds.map Value.int).drop 0).take ds.length = ds.map Value.int := by rw [List.drop_zero]; exact List.take_of_length_le (by simp)
  have e1 : (bs ++ List.replicate r 0).take bs.length = bs := by simp
  have e2 : (bs ++ List.replicate r (0 : Int32)).drop (bs.length + ds.length) = List.replicate (r - ds.length) 0 := by rw [List.drop_append]; simp
  rw [e3, ← List.map_take, ← List.map_drop, e1, e2]
  simp
def b_abin : Bx := (({ frames := 1, cells := 1, slots := 16, locals := 12 } : Room), (⟨"java/lang/AbstractStringBuilder", "<init>", "(I)V"⟩ : MethodName), jdk_68_method_2_code, 2, (Option.none : Option Jvm.ClassFile.FieldType))
theorem ef_abin (s : Addr) (mI : MethodId) : entryFrame mI #[.ref s, .int (16 : Int32)] 2 = mkF mI 0 #[.val (.ref s), .val (.int (16 : Int32))] [] := by first | (simp [entryFrame, mkF, argsToLocals, Value.category]; done) | rfl
theorem pn_java_lang_AbstractStringBuilder : plainName "java/lang/AbstractStringBuilder" = true := by first | (simp [plainName, overriddenIn]; done) | decide +kernel
theorem pd_abin : parseMethodDescriptor "(I)V" = some ⟨[.int], none⟩ := by decide +kernel
set_option maxRecDepth 65536 in
set_option maxHeartbeats 4000000 in
theorem ct_abin {a0 : Array Value} {Z : State} (hw : ∀ d ∈ tables_1, d.before a0 Z = true) (l : Launch) (nar kn : Bool) (hnr : nar = false) (h0 : Heap) (s : Addr) (Es : Exa Z h0 s "java/lang/StringBuilder") (F0 : Fld Z h0 s "java/lang/AbstractStringBuilder" "value" "[B" (.null)) (F1 : Fld Z h0 s "java/lang/AbstractStringBuilder" "coder" "B" (.int 0)) (F2 : Fld Z h0 s "java/lang/AbstractStringBuilder" "count" "I" (.int 0)) (cz : Int32) (O : Sta Z Z.heap "java/lang/String" "COMPACT_STRINGS" "Z" (.int cz)) (hcz : ¬ cz = 0) :
    Ct l Z EL1 (⟨"java/lang/AbstractStringBuilder", "<init>", "(I)V"⟩ : MethodName) jdk_68_method_2_code 2 (Option.none : Option Jvm.ClassFile.FieldType) ({ frames := 1, cells := 1, slots := 16, locals := 12 } : Room) #[.ref s, .int (16 : Int32)] h0 [s] nar kn (fun v h sn => ∃ t, v = none ∧ sn = [t] ∧ h0.size ≤ t ∧ Sbd Z h s t [] 16 ∧ Exa Z h t "[B") := by
  refine Ct.intro (plainFor_of_name pn_java_lang_AbstractStringBuilder) (ew hw) (ef_abin s) ?_
  intro x hl hn0 hkn hsf hh H0
  have hnar : x.nar = false := hn0.trans hnr
  have H0 : Hr x b_abin Z EL1 0 0 h0 [s] 0 #[.val (.ref s), .val (.int (16 : Int32))] [] := H0
  have n01 := slot_ne (a0 := a0) (C := "java/lang/StringBuilder") (O := "java/lang/AbstractStringBuilder") (O' := "java/lang/AbstractStringBuilder") (n := "value") (n' := "coder") (Or.inl (w43 hw)) (Or.inl (w45 hw)) (by decide) (t := .array .byte) (t' := .byte) (by decide) (by decide)
  have n02 := slot_ne (a0 := a0) (C := "java/lang/StringBuilder") (O := "java/lang/AbstractStringBuilder") (O' := "java/lang/AbstractStringBuilder") (n := "value") (n' := "count") (Or.inl (w43 hw)) (Or.inl (w69 hw)) (by decide) (t := .array .byte) (t' := .int) (by decide) (by decide)
  have n12 := slot_ne (a0 := a0) (C := "java/lang/StringBuilder") (O := "java/lang/AbstractStringBuilder") (O' := "java/lang/AbstractStringBuilder") (n := "coder") (n' := "count") (Or.inl (w45 hw)) (Or.inl (w69 hw)) (by decide) (t := .byte) (t' := .int) (by decide) (by decide)
  have H1 : Hr x b_abin Z EL1 0 0 h0 [s] 1 #[.val (.ref s), .val (.int (16 : Int32))] [.ref s] := H0.aloadN d_abin_0
  have H2 : Hr x b_abin Z EL1 0 0 h0 [s] 4 #[.val (.ref s), .val (.int (16 : Int32))] [] := H1.initO (Wr := 0) (w40 hw) (w12 hw) (w13 hw) d_abin_1 (hf := by first | decide | (simp [b_abin, Bx.R]; done) | (simp [b_abin, Bx.R]; omega)) (hl := by first | decide | (simp [b_abin, Bx.R]; done) | (simp [b_abin, Bx.R]; omega))
  have H3 : Hr x b_abin Z EL1 0 0 h0 [s] 7 #[.val (.ref s), .val (.int (16 : Int32))] [.int cz] := H2.getS (w41 hw) (O.ext H2.old) d_abin_4
  have H4 : Hr x b_abin Z EL1 0 0 h0 [s] 10 #[.val (.ref s), .val (.int (16 : Int32))] [] := H3.ifF d_abin_7 (XT.i0_eq_f hcz)
  have H5 : Hr x b_abin Z EL1 0 0 h0 [s] 11 #[.val (.ref s), .val (.int (16 : Int32))] [.ref s] := H4.aloadN d_abin_10
  have H6 : Hr x b_abin Z EL1 0 0 h0 [s] 12 #[.val (.ref s), .val (.int (16 : Int32))] [.int (16 : Int32), .ref s] := H5.iloadN d_abin_11
  obtain ⟨h1, E1, ⟨Ft, Xt⟩, H7⟩ := H6.newarrayE (aty := .byte) (cap := 16) (ad := "[B") (w15 hw) d_abin_12 (by decide) (by decide) (by decide) (by decide +kernel) (by first | decide | (simp [b_abin, Bx.R]; done) | (simp [b_abin, Bx.R]; omega)) (by first | decide | (simp [b_abin, Bx.R]; done) | (simp [b_abin, Bx.R]; omega))
  obtain ⟨t, g_t⟩ : ∃ z, z = h0.size := ⟨_, rfl⟩
  rw [← g_t] at Ft Xt H7
  have Ft : Ar Z h1 t .byte (((([] : List Int32) ++ List.replicate 16 0)).map Value.int) := Ft
  have H7 : Hr x b_abin Z EL1 1 16 h1 [t, s] 14 #[.val (.ref s), .val (.int (16 : Int32))] [.ref t, .ref s] := H7
  have hts : @Ne Nat t s := by have := exa_lt Es; omega
  obtain ⟨h2, W2, H8⟩ := H7.putF (by simp) (w42 hw) (F0.ext E1) (Es.ext E1) (Or.inl (w43 hw)) (w29 hw) d_abin_14 (ty := (.array .byte))
  have H8 : Hr x b_abin Z EL1 1 16 h2 [t, s] 17 #[.val (.ref s), .val (.int (16 : Int32))] [] := H8
  have H9 : Hr x b_abin Z EL1 1 16 h2 [t, s] 18 #[.val (.ref s), .val (.int (16 : Int32))] [.ref s] := H8.aloadN d_abin_17
  have H10 : Hr x b_abin Z EL1 1 16 h2 [t, s] 19 #[.val (.ref s), .val (.int (16 : Int32))] [.int (0 : Int32), .ref s] := H9.iconst d_abin_18
  obtain ⟨h3, W3, H11⟩ := H10.putF (by simp) (w44 hw) ((F1.ext E1).other W2 (Or.inr (Ne.symm n01))) ((Es.ext E1).wr W2) (Or.inl (w45 hw)) (w29 hw) d_abin_19 (ty := .byte)
  have H11 : Hr x b_abin Z EL1 1 16 h3 [t, s] 22 #[.val (.ref s), .val (.int (16 : Int32))] [] := H11
  have H12 : Hr x b_abin Z EL1 1 16 h3 [t, s] 38 #[.val (.ref s), .val (.int (16 : Int32))] [] := H11.goto d_abin_22
  exact H12.finN d_abin_38 rfl (by decide) (by decide) (sub1 (by simp)) ⟨t, rfl, rfl, by omega, ⟨((Es.ext E1).wr W2).wr W3, (Fld.same W2 (F0.ext E1)).other W3 (Or.inr n01), Fld.same W3 ((F1.ext E1).other W2 (Or.inr (Ne.symm n01))), ((F2.ext E1).other W2 (Or.inr (Ne.symm n02))).other W3 (Or.inr (Ne.symm n12)), (Ft.other W2 hts).other W3 hts⟩, (Xt.wr W2).wr W3⟩
def b_sbin : Bx := (({ frames := 2, cells := 1, slots := 16, locals := 25 } : Room), (⟨"java/lang/StringBuilder", "<init>", "()V"⟩ : MethodName), jdk_67_method_1_code, 1, (Option.none : Option Jvm.ClassFile.FieldType))
theorem ef_sbin (s : Addr) (mI : MethodId) : entryFrame mI #[.ref s] 1 = mkF mI 0 #[.val (.ref s)] [] := by first | (simp [entryFrame, mkF, argsToLocals, Value.category]; done) | rfl
theorem pn_java_lang_StringBuilder : plainName "java/lang/StringBuilder" = true := by first | (simp [plainName, overriddenIn]; done) | decide +kernel
theorem pd_sbin : parseMethodDescriptor "()V" = some ⟨[], none⟩ := by decide +kernel
set_option maxRecDepth 65536 in
set_option maxHeartbeats 4000000 in
theorem ct_sbin {a0 : Array Value} {Z : State} (hw : ∀ d ∈ tables_1, d.before a0 Z = true) (l : Launch) (nar kn : Bool) (hnr : nar = false) (h0 : Heap) (s : Addr) (Es : Exa Z h0 s "java/lang/StringBuilder") (F0 : Fld Z h0 s "java/lang/AbstractStringBuilder" "value" "[B" (.null)) (F1 : Fld Z h0 s "java/lang/AbstractStringBuilder" "coder" "B" (.int 0)) (F2 : Fld Z h0 s "java/lang/AbstractStringBuilder" "count" "I" (.int 0)) (cz : Int32) (O : Sta Z Z.heap "java/lang/String" "COMPACT_STRINGS" "Z" (.int cz)) (hcz : ¬ cz = 0) :
    Ct l Z EL1 (⟨"java/lang/StringBuilder", "<init>", "()V"⟩ : MethodName) jdk_67_method_1_code 1 (Option.none : Option Jvm.ClassFile.FieldType) ({ frames := 2, cells := 1, slots := 16, locals := 25 } : Room) #[.ref s] h0 [s] nar kn (fun v h sn => ∃ t, v = none ∧ sn = [t] ∧ h0.size ≤ t ∧ Sbd Z h s t [] 16 ∧ Exa Z h t "[B") := by
  refine Ct.intro (plainFor_of_name pn_java_lang_StringBuilder) (ew hw) (ef_sbin s) ?_
  intro x hl hn0 hkn hsf hh H0
  have hnar : x.nar = false := hn0.trans hnr
  have H0 : Hr x b_sbin Z EL1 0 0 h0 [s] 0 #[.val (.ref s)] [] := H0
  have H1 : Hr x b_sbin Z EL1 0 0 h0 [s] 1 #[.val (.ref s)] [.ref s] := H0.aloadN d_sbin_0
  have H2 : Hr x b_sbin Z EL1 0 0 h0 [s] 3 #[.val (.ref s)] [.int (16 : Int32), .ref s] := H1.bipush d_sbin_1
  obtain ⟨_, h1, _, ⟨t, rfl, rfl, ht, Fs⟩, K1, H3⟩ := H2.callI (argsL := [.int (16 : Int32)]) (rest := []) (Wr := 0) (a := s) (ct_abin hw x.l x.nar x.kn hnar h0 s Es F0 F1 F2 cz O hcz) (sub1 (by simp)) (w34 hw) (w35 hw) (w38 hw) (w39 hw) d_sbin_3 pd_abin rfl (hf := by first | decide | (simp [b_sbin, Bx.R]; done) | (simp [b_sbin, Bx.R]; omega)) (hl := by first | decide | (simp [b_sbin, Bx.R]; done) | (simp [b_sbin, Bx.R]; omega)) (hc := by first | decide | (simp [b_sbin, Bx.R]; done) | (simp [b_sbin, Bx.R]; omega)) (hs := by first | decide | (simp [b_sbin, Bx.R]; done) | (simp [b_sbin, Bx.R]; omega))
  have H3 : Hr x b_sbin Z EL1 1 16 h1 [t, s] 6 #[.val (.ref s)] [] := H3
  exact H3.finN d_sbin_6 rfl (by decide) (by decide) (sub1 (by simp)) ⟨t, rfl, rfl, ht, Fs⟩
def b_ecap : Bx := (({ frames := 0, cells := 0, slots := 0, locals := 0 } : Room), (⟨"java/lang/AbstractStringBuilder", "ensureCapacityInternal", "(I)V"⟩ : MethodName), jdk_68_method_9_code, 3, (Option.none : Option Jvm.ClassFile.FieldType))
theorem ef_ecap (s : Addr) (m : Nat) (mI : MethodId) : entryFrame mI #[.ref s, .int (Int32.ofNat m)] 3 = mkF mI 0 #[.val (.ref s), .val (.int (Int32.ofNat m)), .unset] [] := by first | (simp [entryFrame, mkF, argsToLocals, Value.category]; done) | rfl
theorem pd_ecap : parseMethodDescriptor "(I)V" = some ⟨[.int], none⟩ := by decide +kernel
set_option maxRecDepth 65536 in
set_option maxHeartbeats 4000000 in
theorem ct_ecap {a0 : Array Value} {Z : State} (hw : ∀ d ∈ tables_1, d.before a0 Z = true) (l : Launch) (nar kn : Bool) (hnr : nar = false) (h0 : Heap) (s t : Addr) (m : Nat) (bs : List Int32) (r : Nat) (F : Sbd Z h0 s t bs r) (hm : m ≤ bs.length + r) :
    Ct l Z EL1 (⟨"java/lang/AbstractStringBuilder", "ensureCapacityInternal", "(I)V"⟩ : MethodName) jdk_68_method_9_code 3 (Option.none : Option Jvm.ClassFile.FieldType) ({ frames := 0, cells := 0, slots := 0, locals := 0 } : Room) #[.ref s, .int (Int32.ofNat m)] h0 [] nar kn (fun v h sn => v = none ∧ sn = [] ∧ h = h0) := by
  refine Ct.intro (plainFor_of_name pn_java_lang_AbstractStringBuilder) (ew hw) (ef_ecap s m) ?_
  intro x hl hn0 hkn hsf hh H0
  have hnar : x.nar = false := hn0.trans hnr
  have H0 : Hr x b_ecap Z EL1 0 0 h0 [] 0 #[.val (.ref s), .val (.int (Int32.ofNat m)), .unset] [] := H0
  have hl := F.2.2.2.2.len
  rw [List.length_map, List.length_append, List.length_replicate] at hl
  have hle : ¬ (0 : Int32) < Int32.ofNat m - Int32.ofNat (bs.length + r) := sub_le hm hl
  have H1 : Hr x b_ecap Z EL1 0 0 h0 [] 1 #[.val (.ref s), .val (.int (Int32.ofNat m)), .unset] [.ref s] := H0.aloadN d_ecap_0
  have H2 : Hr x b_ecap Z EL1 0 0 h0 [] 4 #[.val (.ref s), .val (.int (Int32.ofNat m)), .unset] [.ref t] := H1.getF (w42 hw) F.2.1 d_ecap_1
  have H3 : Hr x b_ecap Z EL1 0 0 h0 [] 5 #[.val (.ref s), .val (.int (Int32.ofNat m)), .unset] [.int (Int32.ofNat (bs.length + r))] := H2.arraylength F.2.2.2.2 d_ecap_4 (hn := (by simp))
  have H4 : Hr x b_ecap Z EL1 0 0 h0 [] 6 #[.val (.ref s), .val (.int (Int32.ofNat m)), .unset] [.ref s, .int (Int32.ofNat (bs.length + r))] := H3.aloadN d_ecap_5
  have H5 : Hr x b_ecap Z EL1 0 0 h0 [] 9 #[.val (.ref s), .val (.int (Int32.ofNat m)), .unset] [.int (0 : Int32), .int (Int32.ofNat (bs.length + r))] := H4.getF (w44 hw) F.2.2.1 d_ecap_6
  have H6 : Hr x b_ecap Z EL1 0 0 h0 [] 10 #[.val (.ref s), .val (.int (Int32.ofNat m)), .unset] [.int (Int32.ofNat (bs.length + r))] := H5.ishr d_ecap_9 (hv := (shr0 _))
  have H7 : Hr x b_ecap Z EL1 0 0 h0 [] 11 #[.val (.ref s), .val (.int (Int32.ofNat m)), .val (.int (Int32.ofNat (bs.length + r)))] [] := H6.istoreN d_ecap_10
  have H8 : Hr x b_ecap Z EL1 0 0 h0 [] 12 #[.val (.ref s), .val (.int (Int32.ofNat m)), .val (.int (Int32.ofNat (bs.length + r)))] [.int (Int32.ofNat m)] := H7.iloadN d_ecap_11
  have H9 : Hr x b_ecap Z EL1 0 0 h0 [] 13 #[.val (.ref s), .val (.int (Int32.ofNat m)), .val (.int (Int32.ofNat (bs.length + r)))] [.int (Int32.ofNat (bs.length + r)), .int (Int32.ofNat m)] := H8.iloadN d_ecap_12
  have H10 : Hr x b_ecap Z EL1 0 0 h0 [] 14 #[.val (.ref s), .val (.int (Int32.ofNat m)), .val (.int (Int32.ofNat (bs.length + r)))] [.int ((Int32.ofNat m) - (Int32.ofNat (bs.length + r)))] := H9.isub d_ecap_13
  have H11 : Hr x b_ecap Z EL1 0 0 h0 [] 38 #[.val (.ref s), .val (.int (Int32.ofNat m)), .val (.int (Int32.ofNat (bs.length + r)))] [] := H10.ifT d_ecap_14 (XT.i0_le_t hle)
  exact H11.finN d_ecap_38 rfl (by decide) (by decide) sub0 ⟨rfl, rfl, rfl⟩
def b_infl : Bx := (({ frames := 1, cells := 0, slots := 0, locals := 13 } : Room), (⟨"java/lang/AbstractStringBuilder", "inflateIfNeededFor", "(Ljava/lang/String;)V"⟩ : MethodName), jdk_68_method_71_code, 2, (Option.none : Option Jvm.ClassFile.FieldType))
theorem ef_infl (s a : Addr) (mI : MethodId) : entryFrame mI #[.ref s, .ref a] 2 = mkF mI 0 #[.val (.ref s), .val (.ref a)] [] := by first | (simp [entryFrame, mkF, argsToLocals, Value.category]; done) | rfl
theorem pd_infl : parseMethodDescriptor "(Ljava/lang/String;)V" = some ⟨[(.object "java/lang/String")], none⟩ := by decide +kernel
set_option maxRecDepth 65536 in
set_option maxHeartbeats 4000000 in
theorem ct_infl {a0 : Array Value} {Z : State} (hw : ∀ d ∈ tables_1, d.before a0 Z = true) (l : Launch) (nar kn : Bool) (hnr : nar = false) (h0 : Heap) (s t a u : Addr) (bs ds : List Int32) (r : Nat) (F : Sbd Z h0 s t bs r) (G : Str Z h0 a u ds) (cz : Int32) (O : Sta Z Z.heap "java/lang/String" "COMPACT_STRINGS" "Z" (.int cz)) (hcz : ¬ cz = 0) :
    Ct l Z EL1 (⟨"java/lang/AbstractStringBuilder", "inflateIfNeededFor", "(Ljava/lang/String;)V"⟩ : MethodName) jdk_68_method_71_code 2 (Option.none : Option Jvm.ClassFile.FieldType) ({ frames := 1, cells := 0, slots := 0, locals := 13 } : Room) #[.ref s, .ref a] h0 [] nar kn (fun v h sn => v = none ∧ sn = [] ∧ h = h0) := by
  refine Ct.intro (plainFor_of_name pn_java_lang_AbstractStringBuilder) (ew hw) (ef_infl s a) ?_
  intro x hl hn0 hkn hsf hh H0
  have hnar : x.nar = false := hn0.trans hnr
  have H0 : Hr x b_infl Z EL1 0 0 h0 [] 0 #[.val (.ref s), .val (.ref a)] [] := H0
  have H1 : Hr x b_infl Z EL1 0 0 h0 [] 3 #[.val (.ref s), .val (.ref a)] [.int cz] := H0.getS (w41 hw) (O.ext H0.old) d_infl_0
  have H2 : Hr x b_infl Z EL1 0 0 h0 [] 6 #[.val (.ref s), .val (.ref a)] [] := H1.ifF d_infl_3 (XT.i0_eq_f hcz)
  have H3 : Hr x b_infl Z EL1 0 0 h0 [] 7 #[.val (.ref s), .val (.ref a)] [.ref s] := H2.aloadN d_infl_6
  have H4 : Hr x b_infl Z EL1 0 0 h0 [] 10 #[.val (.ref s), .val (.ref a)] [.int (0 : Int32)] := H3.getF (w44 hw) F.2.2.1 d_infl_7
  have H5 : Hr x b_infl Z EL1 0 0 h0 [] 11 #[.val (.ref s), .val (.ref a)] [.ref a, .int (0 : Int32)] := H4.aloadN d_infl_10
  obtain ⟨_, h1, _, ⟨rfl, rfl, e1⟩, K1, H6⟩ := H5.callV (argsL := []) (rest := [.int (0 : Int32)]) (Wr := 1) (a := a) (ct_scod hw x.l x.nar x.kn hnar h0 a u ds G cz O hcz) sub0 G.1 (w85 hw) (w63 hw) (w65 hw) (w65 hw) (w64 hw) (w2 hw) (w66 hw) d_infl_11 pd_scod rfl (hf := by first | decide | (simp [b_infl, Bx.R]; done) | (simp [b_infl, Bx.R]; omega)) (hl := by first | decide | (simp [b_infl, Bx.R]; done) | (simp [b_infl, Bx.R]; omega)) (hc := by first | decide | (simp [b_infl, Bx.R]; done) | (simp [b_infl, Bx.R]; omega)) (hs := by first | decide | (simp [b_infl, Bx.R]; done) | (simp [b_infl, Bx.R]; omega))
  rw [e1] at H6
  have H6 : Hr x b_infl Z EL1 0 0 h0 [] 14 #[.val (.ref s), .val (.ref a)] [.int (0 : Int32), .int (0 : Int32)] := H6
  have H7 : Hr x b_infl Z EL1 0 0 h0 [] 21 #[.val (.ref s), .val (.ref a)] [] := H6.icmpT d_infl_14 (XT.ii_eq_t rfl)
  exact H7.finN d_infl_21 rfl (by decide) (by decide) sub0 ⟨rfl, rfl, rfl⟩
def b_gbyt : Bx := (({ frames := 1, cells := 0, slots := 0, locals := 18 } : Room), (⟨"java/lang/String", "getBytes", "([BIB)V"⟩ : MethodName), jdk_42_method_147_code, 4, (Option.none : Option Jvm.ClassFile.FieldType))
theorem ef_gbyt (a d : Addr) (j : Nat) (mI : MethodId) : entryFrame mI #[.ref a, .ref d, .int (Int32.ofNat j), .int (0 : Int32)] 4 = mkF mI 0 #[.val (.ref a), .val (.ref d), .val (.int (Int32.ofNat j)), .val (.int (0 : Int32))] [] := by first | (simp [entryFrame, mkF, argsToLocals, Value.category]; done) | rfl
theorem pd_gbyt : parseMethodDescriptor "([BIB)V" = some ⟨[(.array .byte), .int, .byte], none⟩ := by decide +kernel
set_option maxRecDepth 65536 in
set_option maxHeartbeats 4000000 in
theorem ct_gbyt {a0 : Array Value} {Z : State} (hw : ∀ d ∈ tables_1, d.before a0 Z = true) (l : Launch) (nar kn : Bool) (hnr : nar = false) (h0 : Heap) (a u d : Addr) (j : Nat) (ds : List Int32) (ws : List Value) (G : Str Z h0 a u ds) (D : Ar Z h0 d .byte ws) (bd : BL ds) (bw : ∀ v ∈ ws, fits .byte v = true) (hj : j + ds.length ≤ ws.length) (cz : Int32) (O : Sta Z Z.heap "java/lang/String" "COMPACT_STRINGS" "Z" (.int cz)) (hcz : ¬ cz = 0) :
    Ct l Z EL1 (⟨"java/lang/String", "getBytes", "([BIB)V"⟩ : MethodName) jdk_42_method_147_code 4 (Option.none : Option Jvm.ClassFile.FieldType) ({ frames := 1, cells := 0, slots := 0, locals := 18 } : Room) #[.ref a, .ref d, .int (Int32.ofNat j), .int (0 : Int32)] h0 [d] nar kn (fun v h sn => v = none ∧ sn = [] ∧ Ar Z h d .byte (ws.take j ++ ((ds.map Value.int).drop 0).take ds.length ++ ws.drop (j + ds.length))) := by
  refine Ct.intro (plainFor_of_name pn_java_lang_String) (ew hw) (ef_gbyt a d j) ?_
  intro x hl hn0 hkn hsf hh H0
  have hnar : x.nar = false := hn0.trans hnr
  have H0 : Hr x b_gbyt Z EL1 0 0 h0 [d] 0 #[.val (.ref a), .val (.ref d), .val (.int (Int32.ofNat j)), .val (.int (0 : Int32))] [] := H0
  have H1 : Hr x b_gbyt Z EL1 0 0 h0 [d] 1 #[.val (.ref a), .val (.ref d), .val (.int (Int32.ofNat j)), .val (.int (0 : Int32))] [.ref a] := H0.aloadN d_gbyt_0
  obtain ⟨_, h1, _, ⟨rfl, rfl, e1⟩, K1, H2⟩ := H1.callV (argsL := []) (rest := []) (Wr := 0) (a := a) (ct_scod hw x.l x.nar x.kn hnar h0 a u ds G cz O hcz) sub0 G.1 (w62 hw) (w63 hw) (w65 hw) (w65 hw) (w64 hw) (w2 hw) (w66 hw) d_gbyt_1 pd_scod rfl (hf := by first | decide | (simp [b_gbyt, Bx.R]; done) | (simp [b_gbyt, Bx.R]; omega)) (hl := by first | decide | (simp [b_gbyt, Bx.R]; done) | (simp [b_gbyt, Bx.R]; omega)) (hc := by first | decide | (simp [b_gbyt, Bx.R]; done) | (simp [b_gbyt, Bx.R]; omega)) (hs := by first | decide | (simp [b_gbyt, Bx.R]; done) | (simp [b_gbyt, Bx.R]; omega))
  rw [e1] at H2
  have H2 : Hr x b_gbyt Z EL1 0 0 h0 [d] 4 #[.val (.ref a), .val (.ref d), .val (.int (Int32.ofNat j)), .val (.int (0 : Int32))] [.int (0 : Int32)] := H2
  have H3 : Hr x b_gbyt Z EL1 0 0 h0 [d] 5 #[.val (.ref a), .val (.ref d), .val (.int (Int32.ofNat j)), .val (.int (0 : Int32))] [.int (0 : Int32), .int (0 : Int32)] := H2.iloadN d_gbyt_4
  have H4 : Hr x b_gbyt Z EL1 0 0 h0 [d] 8 #[.val (.ref a), .val (.ref d), .val (.int (Int32.ofNat j)), .val (.int (0 : Int32))] [] := H3.icmpF d_gbyt_5 (XT.ii_ne_f rfl)
  have H5 : Hr x b_gbyt Z EL1 0 0 h0 [d] 9 #[.val (.ref a), .val (.ref d), .val (.int (Int32.ofNat j)), .val (.int (0 : Int32))] [.ref a] := H4.aloadN d_gbyt_8
  have H6 : Hr x b_gbyt Z EL1 0 0 h0 [d] 12 #[.val (.ref a), .val (.ref d), .val (.int (Int32.ofNat j)), .val (.int (0 : Int32))] [.ref u] := H5.getF (w20 hw) G.2.2.1 d_gbyt_9
  have H7 : Hr x b_gbyt Z EL1 0 0 h0 [d] 13 #[.val (.ref a), .val (.ref d), .val (.int (Int32.ofNat j)), .val (.int (0 : Int32))] [.int (0 : Int32), .ref u] := H6.iconst d_gbyt_12
  have H8 : Hr x b_gbyt Z EL1 0 0 h0 [d] 14 #[.val (.ref a), .val (.ref d), .val (.int (Int32.ofNat j)), .val (.int (0 : Int32))] [.ref d, .int (0 : Int32), .ref u] := H7.aloadN d_gbyt_13
  have H9 : Hr x b_gbyt Z EL1 0 0 h0 [d] 15 #[.val (.ref a), .val (.ref d), .val (.int (Int32.ofNat j)), .val (.int (0 : Int32))] [.int (Int32.ofNat j), .ref d, .int (0 : Int32), .ref u] := H8.iloadN d_gbyt_14
  have H10 : Hr x b_gbyt Z EL1 0 0 h0 [d] 16 #[.val (.ref a), .val (.ref d), .val (.int (Int32.ofNat j)), .val (.int (0 : Int32))] [.int (0 : Int32), .int (Int32.ofNat j), .ref d, .int (0 : Int32), .ref u] := H9.iloadN d_gbyt_15
  have H11 : Hr x b_gbyt Z EL1 0 0 h0 [d] 17 #[.val (.ref a), .val (.ref d), .val (.int (Int32.ofNat j)), .val (.int (0 : Int32))] [.int (Int32.ofNat j), .ref d, .int (0 : Int32), .ref u] := H10.ishl d_gbyt_16 (hv := (shl0 _))
  have H12 : Hr x b_gbyt Z EL1 0 0 h0 [d] 18 #[.val (.ref a), .val (.ref d), .val (.int (Int32.ofNat j)), .val (.int (0 : Int32))] [.ref a, .int (Int32.ofNat j), .ref d, .int (0 : Int32), .ref u] := H11.aloadN d_gbyt_17
  have H13 : Hr x b_gbyt Z EL1 0 0 h0 [d] 21 #[.val (.ref a), .val (.ref d), .val (.int (Int32.ofNat j)), .val (.int (0 : Int32))] [.ref u, .int (Int32.ofNat j), .ref d, .int (0 : Int32), .ref u] := H12.getF (w20 hw) G.2.2.1 d_gbyt_18
  have H14 : Hr x b_gbyt Z EL1 0 0 h0 [d] 22 #[.val (.ref a), .val (.ref d), .val (.int (Int32.ofNat j)), .val (.int (0 : Int32))] [.int (Int32.ofNat ds.length), .int (Int32.ofNat j), .ref d, .int (0 : Int32), .ref u] := H13.arraylength G.2.2.2 d_gbyt_21 (hn := (by simp))
  obtain ⟨h2, K2, D2, H15⟩ := H14.arraycopy (i := 0) (j := j) (n := ds.length) (Wr := 0) (ty := .byte) (by simp) (w91 hw) (w94 hw) (w92 hw) (w93 hw) G.2.2.2 D (by decide) bd.vals bw (by simp) hj d_gbyt_22 (hf := by decide) (hl := by decide)
  have H15 : Hr x b_gbyt Z EL1 0 0 h2 [d] 25 #[.val (.ref a), .val (.ref d), .val (.int (Int32.ofNat j)), .val (.int (0 : Int32))] [] := H15
  have H16 : Hr x b_gbyt Z EL1 0 0 h2 [d] 43 #[.val (.ref a), .val (.ref d), .val (.int (Int32.ofNat j)), .val (.int (0 : Int32))] [] := H15.goto d_gbyt_25
  exact H16.finN d_gbyt_43 rfl (by decide) (by decide) sub0 ⟨rfl, rfl, D2⟩
def b_psta : Bx := (({ frames := 2, cells := 0, slots := 0, locals := 33 } : Room), (⟨"java/lang/AbstractStringBuilder", "putStringAt", "(ILjava/lang/String;)V"⟩ : MethodName), jdk_68_method_73_code, 3, (Option.none : Option Jvm.ClassFile.FieldType))
theorem ef_psta (s : Addr) (bs : List Int32) (a : Addr) (mI : MethodId) : entryFrame mI #[.ref s, .int (Int32.ofNat bs.length), .ref a] 3 = mkF mI 0 #[.val (.ref s), .val (.int (Int32.ofNat bs.length)), .val (.ref a)] [] := by first | (simp [entryFrame, mkF, argsToLocals, Value.category]; done) | rfl
theorem pd_psta : parseMethodDescriptor "(ILjava/lang/String;)V" = some ⟨[.int, (.object "java/lang/String")], none⟩ := by decide +kernel
set_option maxRecDepth 65536 in
set_option maxHeartbeats 4000000 in
theorem ct_psta {a0 : Array Value} {Z : State} (hw : ∀ d ∈ tables_1, d.before a0 Z = true) (l : Launch) (nar kn : Bool) (hnr : nar = false) (h0 : Heap) (s t a u : Addr) (bs ds : List Int32) (r : Nat) (F : Sbd Z h0 s t bs r) (G : Str Z h0 a u ds) (bb : BL bs) (bd : BL ds) (hr : ds.length ≤ r) (hst : s ≠ t) (cz : Int32) (O : Sta Z Z.heap "java/lang/String" "COMPACT_STRINGS" "Z" (.int cz)) (hcz : ¬ cz = 0) :
    Ct l Z EL1 (⟨"java/lang/AbstractStringBuilder", "putStringAt", "(ILjava/lang/String;)V"⟩ : MethodName) jdk_68_method_73_code 3 (Option.none : Option Jvm.ClassFile.FieldType) ({ frames := 2, cells := 0, slots := 0, locals := 33 } : Room) #[.ref s, .int (Int32.ofNat bs.length), .ref a] h0 [t] nar kn (fun v h sn => v = none ∧ sn = [] ∧ Ar Z h t .byte (((bs ++ ds) ++ List.replicate (r - ds.length) 0).map Value.int)) := by
  refine Ct.intro (plainFor_of_name pn_java_lang_AbstractStringBuilder) (ew hw) (ef_psta s bs a) ?_
  intro x hl hn0 hkn hsf hh H0
  have hnar : x.nar = false := hn0.trans hnr
  have H0 : Hr x b_psta Z EL1 0 0 h0 [t] 0 #[.val (.ref s), .val (.int (Int32.ofNat bs.length)), .val (.ref a)] [] := H0
  have H1 : Hr x b_psta Z EL1 0 0 h0 [t] 1 #[.val (.ref s), .val (.int (Int32.ofNat bs.length)), .val (.ref a)] [.ref s] := H0.aloadN d_psta_0
  have H2 : Hr x b_psta Z EL1 0 0 h0 [t] 2 #[.val (.ref s), .val (.int (Int32.ofNat bs.length)), .val (.ref a)] [.ref a, .ref s] := H1.aloadN d_psta_1
  obtain ⟨_, h1, _, ⟨rfl, rfl, e1⟩, K1, H3⟩ := H2.callP (argsL := [.ref a]) (rest := []) (Wr := 0) (a := s) (ct_infl hw x.l x.nar x.kn hnar h0 s t a u bs ds r F G cz O hcz) sub0 F.1 (w80 hw) (w81 hw) (w73 hw) (w82 hw) (w38 hw) (w84 hw) d_psta_2 pd_infl rfl (hf := by first | decide | (simp [b_psta, Bx.R]; done) | (simp [b_psta, Bx.R]; omega)) (hl := by first | decide | (simp [b_psta, Bx.R]; done) | (simp [b_psta, Bx.R]; omega)) (hc := by first | decide | (simp [b_psta, Bx.R]; done) | (simp [b_psta, Bx.R]; omega)) (hs := by first | decide | (simp [b_psta, Bx.R]; done) | (simp [b_psta, Bx.R]; omega))
  rw [e1] at H3
  have H3 : Hr x b_psta Z EL1 0 0 h0 [t] 5 #[.val (.ref s), .val (.int (Int32.ofNat bs.length)), .val (.ref a)] [] := H3
  have H4 : Hr x b_psta Z EL1 0 0 h0 [t] 6 #[.val (.ref s), .val (.int (Int32.ofNat bs.length)), .val (.ref a)] [.ref a] := H3.aloadN d_psta_5
  have H5 : Hr x b_psta Z EL1 0 0 h0 [t] 7 #[.val (.ref s), .val (.int (Int32.ofNat bs.length)), .val (.ref a)] [.ref s, .ref a] := H4.aloadN d_psta_6
  have H6 : Hr x b_psta Z EL1 0 0 h0 [t] 10 #[.val (.ref s), .val (.int (Int32.ofNat bs.length)), .val (.ref a)] [.ref t, .ref a] := H5.getF (w42 hw) F.2.1 d_psta_7
  have H7 : Hr x b_psta Z EL1 0 0 h0 [t] 11 #[.val (.ref s), .val (.int (Int32.ofNat bs.length)), .val (.ref a)] [.int (Int32.ofNat bs.length), .ref t, .ref a] := H6.iloadN d_psta_10
  have H8 : Hr x b_psta Z EL1 0 0 h0 [t] 12 #[.val (.ref s), .val (.int (Int32.ofNat bs.length)), .val (.ref a)] [.ref s, .int (Int32.ofNat bs.length), .ref t, .ref a] := H7.aloadN d_psta_11
  have H9 : Hr x b_psta Z EL1 0 0 h0 [t] 15 #[.val (.ref s), .val (.int (Int32.ofNat bs.length)), .val (.ref a)] [.int (0 : Int32), .int (Int32.ofNat bs.length), .ref t, .ref a] := H8.getF (w44 hw) F.2.2.1 d_psta_12
  obtain ⟨_, h2, _, ⟨rfl, rfl, D2⟩, K2, H10⟩ := H9.callV (argsL := [.ref t, .int (Int32.ofNat bs.length), .int (0 : Int32)]) (rest := []) (Wr := 0) (a := a) (ct_gbyt hw x.l x.nar x.kn hnar h0 a u t bs.length ds _ G F.2.2.2.2 bd (bb.app (BL.rep r)).vals (by simp; omega) cz O hcz) (sub1 (by simp)) G.1 (w86 hw) (w87 hw) (w89 hw) (w89 hw) (w88 hw) (w2 hw) (w90 hw) d_psta_15 pd_gbyt rfl (hf := by first | decide | (simp [b_psta, Bx.R]; done) | (simp [b_psta, Bx.R]; omega)) (hl := by first | decide | (simp [b_psta, Bx.R]; done) | (simp [b_psta, Bx.R]; omega)) (hc := by first | decide | (simp [b_psta, Bx.R]; done) | (simp [b_psta, Bx.R]; omega)) (hs := by first | decide | (simp [b_psta, Bx.R]; done) | (simp [b_psta, Bx.R]; omega))
  have H10 : Hr x b_psta Z EL1 0 0 h2 [t] 18 #[.val (.ref s), .val (.int (Int32.ofNat bs.length)), .val (.ref a)] [] := H10
  rw [put_next hr] at D2
  exact H10.finN d_psta_18 rfl (by decide) (by decide) sub0 ⟨rfl, rfl, D2⟩
def b_aapp : Bx := (({ frames := 3, cells := 0, slots := 0, locals := 47 } : Room), (⟨"java/lang/AbstractStringBuilder", "append", "(Ljava/lang/String;)Ljava/lang/AbstractStringBuilder;"⟩ : MethodName), jdk_68_method_22_code, 3, (Option.some (Jvm.ClassFile.FieldType.object "java/lang/AbstractStringBuilder")))
theorem ef_aapp (s a : Addr) (mI : MethodId) : entryFrame mI #[.ref s, .ref a] 3 = mkF mI 0 #[.val (.ref s), .val (.ref a), .unset] [] := by first | (simp [entryFrame, mkF, argsToLocals, Value.category]; done) | rfl
theorem pd_aapp : parseMethodDescriptor "(Ljava/lang/String;)Ljava/lang/AbstractStringBuilder;" = some ⟨[(.object "java/lang/String")], some (.object "java/lang/AbstractStringBuilder")⟩ := by decide +kernel
set_option maxRecDepth 65536 in
set_option maxHeartbeats 4000000 in
theorem ct_aapp {a0 : Array Value} {Z : State} (hw : ∀ d ∈ tables_1, d.before a0 Z = true) (l : Launch) (nar kn : Bool) (hnr : nar = false) (h0 : Heap) (s t a u : Addr) (bs ds : List Int32) (r : Nat) (F : Sbd Z h0 s t bs r) (G : Str Z h0 a u ds) (bb : BL bs) (bd : BL ds) (hr : ds.length ≤ r) (hst : s ≠ t) (cz : Int32) (O : Sta Z Z.heap "java/lang/String" "COMPACT_STRINGS" "Z" (.int cz)) (hcz : ¬ cz = 0) :
    Ct l Z EL1 (⟨"java/lang/AbstractStringBuilder", "append", "(Ljava/lang/String;)Ljava/lang/AbstractStringBuilder;"⟩ : MethodName) jdk_68_method_22_code 3 (Option.some (Jvm.ClassFile.FieldType.object "java/lang/AbstractStringBuilder")) ({ frames := 3, cells := 0, slots := 0, locals := 47 } : Room) #[.ref s, .ref a] h0 [s, t] nar kn (fun v h sn => v = some (.ref s) ∧ sn = [] ∧ Sbd Z h s t (bs ++ ds) (r - ds.length)) := by
  refine Ct.intro (plainFor_of_name pn_java_lang_AbstractStringBuilder) (ew hw) (ef_aapp s a) ?_
  intro x hl hn0 hkn hsf hh H0
  have hnar : x.nar = false := hn0.trans hnr
  have H0 : Hr x b_aapp Z EL1 0 0 h0 [s, t] 0 #[.val (.ref s), .val (.ref a), .unset] [] := H0
  have n01 := slot_ne (a0 := a0) (C := "java/lang/StringBuilder") (O := "java/lang/AbstractStringBuilder") (O' := "java/lang/AbstractStringBuilder") (n := "value") (n' := "coder") (Or.inl (w43 hw)) (Or.inl (w45 hw)) (by decide) (t := .array .byte) (t' := .byte) (by decide) (by decide)
  have n02 := slot_ne (a0 := a0) (C := "java/lang/StringBuilder") (O := "java/lang/AbstractStringBuilder") (O' := "java/lang/AbstractStringBuilder") (n := "value") (n' := "count") (Or.inl (w43 hw)) (Or.inl (w69 hw)) (by decide) (t := .array .byte) (t' := .int) (by decide) (by decide)
  have n12 := slot_ne (a0 := a0) (C := "java/lang/StringBuilder") (O := "java/lang/AbstractStringBuilder") (O' := "java/lang/AbstractStringBuilder") (n := "coder") (n' := "count") (Or.inl (w45 hw)) (Or.inl (w69 hw)) (by decide) (t := .byte) (t' := .int) (by decide) (by decide)
  have hl := F.2.2.2.2.len
  rw [List.length_map, List.length_append, List.length_replicate] at hl
  have H1 : Hr x b_aapp Z EL1 0 0 h0 [s, t] 1 #[.val (.ref s), .val (.ref a), .unset] [.ref a] := H0.aloadN d_aapp_0
  have H2 : Hr x b_aapp Z EL1 0 0 h0 [s, t] 9 #[.val (.ref s), .val (.ref a), .unset] [] := H1.ifnonnullT d_aapp_1
  have H3 : Hr x b_aapp Z EL1 0 0 h0 [s, t] 10 #[.val (.ref s), .val (.ref a), .unset] [.ref a] := H2.aloadN d_aapp_9
  obtain ⟨_, h1, _, ⟨rfl, rfl, e1⟩, K1, H4⟩ := H3.callV (argsL := []) (rest := []) (Wr := 0) (a := a) (ct_slen hw x.l x.nar x.kn hnar h0 a u ds G cz O hcz) sub0 G.1 (w57 hw) (w58 hw) (w60 hw) (w60 hw) (w59 hw) (w2 hw) (w61 hw) d_aapp_10 pd_slen rfl (hf := by first | decide | (simp [b_aapp, Bx.R]; done) | (simp [b_aapp, Bx.R]; omega)) (hl := by first | decide | (simp [b_aapp, Bx.R]; done) | (simp [b_aapp, Bx.R]; omega)) (hc := by first | decide | (simp [b_aapp, Bx.R]; done) | (simp [b_aapp, Bx.R]; omega)) (hs := by first | decide | (simp [b_aapp, Bx.R]; done) | (simp [b_aapp, Bx.R]; omega))
  rw [e1] at H4
  have H4 : Hr x b_aapp Z EL1 0 0 h0 [s, t] 13 #[.val (.ref s), .val (.ref a), .unset] [.int (Int32.ofNat ds.length)] := H4
  have H5 : Hr x b_aapp Z EL1 0 0 h0 [s, t] 14 #[.val (.ref s), .val (.ref a), .val (.int (Int32.ofNat ds.length))] [] := H4.istoreN d_aapp_13
  have H6 : Hr x b_aapp Z EL1 0 0 h0 [s, t] 15 #[.val (.ref s), .val (.ref a), .val (.int (Int32.ofNat ds.length))] [.ref s] := H5.aloadN d_aapp_14
  have H7 : Hr x b_aapp Z EL1 0 0 h0 [s, t] 16 #[.val (.ref s), .val (.ref a), .val (.int (Int32.ofNat ds.length))] [.ref s, .ref s] := H6.aloadN d_aapp_15
  have H8 : Hr x b_aapp Z EL1 0 0 h0 [s, t] 19 #[.val (.ref s), .val (.ref a), .val (.int (Int32.ofNat ds.length))] [.int (Int32.ofNat bs.length), .ref s] := H7.getF (w68 hw) F.2.2.2.1 d_aapp_16
  have H9 : Hr x b_aapp Z EL1 0 0 h0 [s, t] 20 #[.val (.ref s), .val (.ref a), .val (.int (Int32.ofNat ds.length))] [.int (Int32.ofNat ds.length), .int (Int32.ofNat bs.length), .ref s] := H8.iloadN d_aapp_19
  have H10 : Hr x b_aapp Z EL1 0 0 h0 [s, t] 21 #[.val (.ref s), .val (.ref a), .val (.int (Int32.ofNat ds.length))] [.int (Int32.ofNat (bs.length + ds.length)), .ref s] := H9.iadd d_aapp_20 (hv := (ofNat_add _ _))
  obtain ⟨_, h2, _, ⟨rfl, rfl, e2⟩, K2, H11⟩ := H10.callP (argsL := [.int (Int32.ofNat (bs.length + ds.length))]) (rest := []) (Wr := 0) (a := s) (ct_ecap hw x.l x.nar x.kn hnar h0 s t (bs.length + ds.length) bs r F (by omega)) sub0 F.1 (w70 hw) (w71 hw) (w73 hw) (w72 hw) (w38 hw) (w74 hw) d_aapp_21 pd_ecap rfl (hf := by first | decide | (simp [b_aapp, Bx.R]; done) | (simp [b_aapp, Bx.R]; omega)) (hl := by first | decide | (simp [b_aapp, Bx.R]; done) | (simp [b_aapp, Bx.R]; omega)) (hc := by first | decide | (simp [b_aapp, Bx.R]; done) | (simp [b_aapp, Bx.R]; omega)) (hs := by first | decide | (simp [b_aapp, Bx.R]; done) | (simp [b_aapp, Bx.R]; omega))
  rw [e2] at H11
  have H11 : Hr x b_aapp Z EL1 0 0 h0 [s, t] 24 #[.val (.ref s), .val (.ref a), .val (.int (Int32.ofNat ds.length))] [] := H11
  have H12 : Hr x b_aapp Z EL1 0 0 h0 [s, t] 25 #[.val (.ref s), .val (.ref a), .val (.int (Int32.ofNat ds.length))] [.ref s] := H11.aloadN d_aapp_24
  have H13 : Hr x b_aapp Z EL1 0 0 h0 [s, t] 26 #[.val (.ref s), .val (.ref a), .val (.int (Int32.ofNat ds.length))] [.ref s, .ref s] := H12.aloadN d_aapp_25
  have H14 : Hr x b_aapp Z EL1 0 0 h0 [s, t] 29 #[.val (.ref s), .val (.ref a), .val (.int (Int32.ofNat ds.length))] [.int (Int32.ofNat bs.length), .ref s] := H13.getF (w68 hw) F.2.2.2.1 d_aapp_26
  have H15 : Hr x b_aapp Z EL1 0 0 h0 [s, t] 30 #[.val (.ref s), .val (.ref a), .val (.int (Int32.ofNat ds.length))] [.ref a, .int (Int32.ofNat bs.length), .ref s] := H14.aloadN d_aapp_29
  obtain ⟨_, h3, _, ⟨rfl, rfl, D3⟩, K3, H16⟩ := H15.callP (argsL := [.int (Int32.ofNat bs.length), .ref a]) (rest := []) (Wr := 0) (a := s) (ct_psta hw x.l x.nar x.kn hnar h0 s t a u bs ds r F G bb bd hr hst cz O hcz) (sub1 (by simp)) F.1 (w75 hw) (w76 hw) (w73 hw) (w77 hw) (w38 hw) (w79 hw) d_aapp_30 pd_psta rfl (hf := by first | decide | (simp [b_aapp, Bx.R]; done) | (simp [b_aapp, Bx.R]; omega)) (hl := by first | decide | (simp [b_aapp, Bx.R]; done) | (simp [b_aapp, Bx.R]; omega)) (hc := by first | decide | (simp [b_aapp, Bx.R]; done) | (simp [b_aapp, Bx.R]; omega)) (hs := by first | decide | (simp [b_aapp, Bx.R]; done) | (simp [b_aapp, Bx.R]; omega))
  have H16 : Hr x b_aapp Z EL1 0 0 h3 [s, t] 33 #[.val (.ref s), .val (.ref a), .val (.int (Int32.ofNat ds.length))] [] := H16
  have q3 : s ∉ [t] := ninS hst nin0
  have H17 : Hr x b_aapp Z EL1 0 0 h3 [s, t] 34 #[.val (.ref s), .val (.ref a), .val (.int (Int32.ofNat ds.length))] [.ref s] := H16.aloadN d_aapp_33
  have H18 : Hr x b_aapp Z EL1 0 0 h3 [s, t] 35 #[.val (.ref s), .val (.ref a), .val (.int (Int32.ofNat ds.length))] [.ref s, .ref s] := H17.dup d_aapp_34
  have H19 : Hr x b_aapp Z EL1 0 0 h3 [s, t] 38 #[.val (.ref s), .val (.ref a), .val (.int (Int32.ofNat ds.length))] [.int (Int32.ofNat bs.length), .ref s] := H18.getF (w68 hw) (F.2.2.2.1.keep K3 q3) d_aapp_35
  have H20 : Hr x b_aapp Z EL1 0 0 h3 [s, t] 39 #[.val (.ref s), .val (.ref a), .val (.int (Int32.ofNat ds.length))] [.int (Int32.ofNat ds.length), .int (Int32.ofNat bs.length), .ref s] := H19.iloadN d_aapp_38
  have H21 : Hr x b_aapp Z EL1 0 0 h3 [s, t] 40 #[.val (.ref s), .val (.ref a), .val (.int (Int32.ofNat ds.length))] [.int (Int32.ofNat (bs ++ ds).length), .ref s] := H20.iadd d_aapp_39 (hv := (by rw [ofNat_add, List.length_append]))
  obtain ⟨h4, W4, H22⟩ := H21.putF (by simp) (w68 hw) (F.2.2.2.1.keep K3 q3) (F.1.keep K3) (Or.inl (w69 hw)) (w29 hw) d_aapp_40 (ty := .int)
  have H22 : Hr x b_aapp Z EL1 0 0 h4 [s, t] 43 #[.val (.ref s), .val (.ref a), .val (.int (Int32.ofNat ds.length))] [] := H22
  have H23 : Hr x b_aapp Z EL1 0 0 h4 [s, t] 44 #[.val (.ref s), .val (.ref a), .val (.int (Int32.ofNat ds.length))] [.ref s] := H22.aloadN d_aapp_43
  exact H23.finA d_aapp_44 ⟨rfl, rfl, (F.1.keep K3).wr W4, (F.2.1.keep K3 q3).other W4 (Or.inr n02), (F.2.2.1.keep K3 q3).other W4 (Or.inr n12), Fld.same W4 (F.2.2.2.1.keep K3 q3), D3.other W4 (Ne.symm hst)⟩ sub0
def b_sapp : Bx := (({ frames := 4, cells := 0, slots := 0, locals := 61 } : Room), (⟨"java/lang/StringBuilder", "append", "(Ljava/lang/String;)Ljava/lang/StringBuilder;"⟩ : MethodName), jdk_67_method_7_code, 2, (Option.some (Jvm.ClassFile.FieldType.object "java/lang/StringBuilder")))
theorem ef_sapp (s a : Addr) (mI : MethodId) : entryFrame mI #[.ref s, .ref a] 2 = mkF mI 0 #[.val (.ref s), .val (.ref a)] [] := by first | (simp [entryFrame, mkF, argsToLocals, Value.category]; done) | rfl
theorem pd_sapp : parseMethodDescriptor "(Ljava/lang/String;)Ljava/lang/StringBuilder;" = some ⟨[(.object "java/lang/String")], some (.object "java/lang/StringBuilder")⟩ := by decide +kernel
set_option maxRecDepth 65536 in
set_option maxHeartbeats 4000000 in
theorem ct_sapp {a0 : Array Value} {Z : State} (hw : ∀ d ∈ tables_1, d.before a0 Z = true) (l : Launch) (nar kn : Bool) (hnr : nar = false) (h0 : Heap) (s t a u : Addr) (bs ds : List Int32) (r : Nat) (F : Sbd Z h0 s t bs r) (G : Str Z h0 a u ds) (bb : BL bs) (bd : BL ds) (hr : ds.length ≤ r) (hst : s ≠ t) (cz : Int32) (O : Sta Z Z.heap "java/lang/String" "COMPACT_STRINGS" "Z" (.int cz)) (hcz : ¬ cz = 0) :
    Ct l Z EL1 (⟨"java/lang/StringBuilder", "append", "(Ljava/lang/String;)Ljava/lang/StringBuilder;"⟩ : MethodName) jdk_67_method_7_code 2 (Option.some (Jvm.ClassFile.FieldType.object "java/lang/StringBuilder")) ({ frames := 4, cells := 0, slots := 0, locals := 61 } : Room) #[.ref s, .ref a] h0 [s, t] nar kn (fun v h sn => v = some (.ref s) ∧ sn = [] ∧ Sbd Z h s t (bs ++ ds) (r - ds.length)) := by
  refine Ct.intro (plainFor_of_name pn_java_lang_StringBuilder) (ew hw) (ef_sapp s a) ?_
  intro x hl hn0 hkn hsf hh H0
  have hnar : x.nar = false := hn0.trans hnr
  have H0 : Hr x b_sapp Z EL1 0 0 h0 [s, t] 0 #[.val (.ref s), .val (.ref a)] [] := H0
  have H1 : Hr x b_sapp Z EL1 0 0 h0 [s, t] 1 #[.val (.ref s), .val (.ref a)] [.ref s] := H0.aloadN d_sapp_0
  have H2 : Hr x b_sapp Z EL1 0 0 h0 [s, t] 2 #[.val (.ref s), .val (.ref a)] [.ref a, .ref s] := H1.aloadN d_sapp_1
  obtain ⟨_, h1, _, ⟨rfl, rfl, F1⟩, K1, H3⟩ := H2.callSup (argsL := [.ref a]) (rest := []) (Wr := 0) (a := s) (ct_aapp hw x.l x.nar x.kn hnar h0 s t a u bs ds r F G bb bd hr hst cz O hcz) (fun z hz => hz) F.1 (w52 hw) (w53 hw) (w73 hw) (w54 hw) (w38 hw) (w56 hw) d_sapp_2 pd_aapp rfl (hf := by first | decide | (simp [b_sapp, Bx.R]; done) | (simp [b_sapp, Bx.R]; omega)) (hl := by first | decide | (simp [b_sapp, Bx.R]; done) | (simp [b_sapp, Bx.R]; omega)) (hc := by first | decide | (simp [b_sapp, Bx.R]; done) | (simp [b_sapp, Bx.R]; omega)) (hs := by first | decide | (simp [b_sapp, Bx.R]; done) | (simp [b_sapp, Bx.R]; omega))
  have H3 : Hr x b_sapp Z EL1 0 0 h1 [s, t] 5 #[.val (.ref s), .val (.ref a)] [.ref s] := H3
  have H4 : Hr x b_sapp Z EL1 0 0 h1 [s, t] 6 #[.val (.ref s), .val (.ref a)] [] := H3.pop d_sapp_5
  have H5 : Hr x b_sapp Z EL1 0 0 h1 [s, t] 7 #[.val (.ref s), .val (.ref a)] [.ref s] := H4.aloadN d_sapp_6
  exact H5.finA d_sapp_7 ⟨rfl, rfl, F1⟩ sub0
def b_gval : Bx := (({ frames := 0, cells := 0, slots := 0, locals := 0 } : Room), (⟨"java/lang/AbstractStringBuilder", "getValue", "()[B"⟩ : MethodName), jdk_68_method_64_code, 1, (Option.some (Jvm.ClassFile.FieldType.array Jvm.ClassFile.FieldType.byte)))
theorem ef_gval (s : Addr) (mI : MethodId) : entryFrame mI #[.ref s] 1 = mkF mI 0 #[.val (.ref s)] [] := by first | (simp [entryFrame, mkF, argsToLocals, Value.category]; done) | rfl
theorem pd_gval : parseMethodDescriptor "()[B" = some ⟨[], some (.array .byte)⟩ := by decide +kernel
set_option maxRecDepth 65536 in
set_option maxHeartbeats 4000000 in
theorem ct_gval {a0 : Array Value} {Z : State} (hw : ∀ d ∈ tables_1, d.before a0 Z = true) (l : Launch) (nar kn : Bool) (hnr : nar = false) (h0 : Heap) (s t : Addr) (bs : List Int32) (r : Nat) (F : Sbd Z h0 s t bs r) :
    Ct l Z EL1 (⟨"java/lang/AbstractStringBuilder", "getValue", "()[B"⟩ : MethodName) jdk_68_method_64_code 1 (Option.some (Jvm.ClassFile.FieldType.array Jvm.ClassFile.FieldType.byte)) ({ frames := 0, cells := 0, slots := 0, locals := 0 } : Room) #[.ref s] h0 [] nar kn (fun v h sn => v = some (.ref t) ∧ sn = [] ∧ h = h0) := by
  refine Ct.intro (plainFor_of_name pn_java_lang_AbstractStringBuilder) (ew hw) (ef_gval s) ?_
  intro x hl hn0 hkn hsf hh H0
  have hnar : x.nar = false := hn0.trans hnr
  have H0 : Hr x b_gval Z EL1 0 0 h0 [] 0 #[.val (.ref s)] [] := H0
  have H1 : Hr x b_gval Z EL1 0 0 h0 [] 1 #[.val (.ref s)] [.ref s] := H0.aloadN d_gval_0
  have H2 : Hr x b_gval Z EL1 0 0 h0 [] 4 #[.val (.ref s)] [.ref t] := H1.getF (w42 hw) F.2.1 d_gval_1
  exact H2.finA d_gval_4 ⟨rfl, rfl, rfl⟩ sub0
def b_alen : Bx := (({ frames := 0, cells := 0, slots := 0, locals := 0 } : Room), (⟨"java/lang/AbstractStringBuilder", "length", "()I"⟩ : MethodName), jdk_68_method_6_code, 1, (Option.some Jvm.ClassFile.FieldType.int))
theorem ef_alen (s : Addr) (mI : MethodId) : entryFrame mI #[.ref s] 1 = mkF mI 0 #[.val (.ref s)] [] := by first | (simp [entryFrame, mkF, argsToLocals, Value.category]; done) | rfl
theorem pd_alen : parseMethodDescriptor "()I" = some ⟨[], some .int⟩ := by decide +kernel
set_option maxRecDepth 65536 in
set_option maxHeartbeats 4000000 in
theorem ct_alen {a0 : Array Value} {Z : State} (hw : ∀ d ∈ tables_1, d.before a0 Z = true) (l : Launch) (nar kn : Bool) (hnr : nar = false) (h0 : Heap) (s t : Addr) (bs : List Int32) (r : Nat) (F : Sbd Z h0 s t bs r) :
    Ct l Z EL1 (⟨"java/lang/AbstractStringBuilder", "length", "()I"⟩ : MethodName) jdk_68_method_6_code 1 (Option.some Jvm.ClassFile.FieldType.int) ({ frames := 0, cells := 0, slots := 0, locals := 0 } : Room) #[.ref s] h0 [] nar kn (fun v h sn => v = some (.int (Int32.ofNat bs.length)) ∧ sn = [] ∧ h = h0) := by
  refine Ct.intro (plainFor_of_name pn_java_lang_AbstractStringBuilder) (ew hw) (ef_alen s) ?_
  intro x hl hn0 hkn hsf hh H0
  have hnar : x.nar = false := hn0.trans hnr
  have H0 : Hr x b_alen Z EL1 0 0 h0 [] 0 #[.val (.ref s)] [] := H0
  have H1 : Hr x b_alen Z EL1 0 0 h0 [] 1 #[.val (.ref s)] [.ref s] := H0.aloadN d_alen_0
  have H2 : Hr x b_alen Z EL1 0 0 h0 [] 4 #[.val (.ref s)] [.int (Int32.ofNat bs.length)] := H1.getF (w68 hw) F.2.2.2.1 d_alen_1
  exact H2.finI d_alen_4 ⟨rfl, rfl, rfl⟩ sub0
def b_blen : Bx := (({ frames := 1, cells := 0, slots := 0, locals := 12 } : Room), (⟨"java/lang/StringBuilder", "length", "()I"⟩ : MethodName), jdk_67_method_93_code, 1, (Option.some Jvm.ClassFile.FieldType.int))
theorem ef_blen (s : Addr) (mI : MethodId) : entryFrame mI #[.ref s] 1 = mkF mI 0 #[.val (.ref s)] [] := by first | (simp [entryFrame, mkF, argsToLocals, Value.category]; done) | rfl
theorem pd_blen : parseMethodDescriptor "()I" = some ⟨[], some .int⟩ := by decide +kernel
set_option maxRecDepth 65536 in
set_option maxHeartbeats 4000000 in
theorem ct_blen {a0 : Array Value} {Z : State} (hw : ∀ d ∈ tables_1, d.before a0 Z = true) (l : Launch) (nar kn : Bool) (hnr : nar = false) (h0 : Heap) (s t : Addr) (bs : List Int32) (r : Nat) (F : Sbd Z h0 s t bs r) :
    Ct l Z EL1 (⟨"java/lang/StringBuilder", "length", "()I"⟩ : MethodName) jdk_67_method_93_code 1 (Option.some Jvm.ClassFile.FieldType.int) ({ frames := 1, cells := 0, slots := 0, locals := 12 } : Room) #[.ref s] h0 [] nar kn (fun v h sn => v = some (.int (Int32.ofNat bs.length)) ∧ sn = [] ∧ h = h0) := by
  refine Ct.intro (plainFor_of_name pn_java_lang_StringBuilder) (ew hw) (ef_blen s) ?_
  intro x hl hn0 hkn hsf hh H0
  have hnar : x.nar = false := hn0.trans hnr
  have H0 : Hr x b_blen Z EL1 0 0 h0 [] 0 #[.val (.ref s)] [] := H0
  have H1 : Hr x b_blen Z EL1 0 0 h0 [] 1 #[.val (.ref s)] [.ref s] := H0.aloadN d_blen_0
  obtain ⟨_, h1, _, ⟨rfl, rfl, e1⟩, K1, H2⟩ := H1.callSup (argsL := []) (rest := []) (Wr := 0) (a := s) (ct_alen hw x.l x.nar x.kn hnar h0 s t bs r F) sub0 F.1 (w118 hw) (w114 hw) (w73 hw) (w54 hw) (w38 hw) (w119 hw) d_blen_1 pd_alen rfl (hf := by first | decide | (simp [b_blen, Bx.R]; done) | (simp [b_blen, Bx.R]; omega)) (hl := by first | decide | (simp [b_blen, Bx.R]; done) | (simp [b_blen, Bx.R]; omega)) (hc := by first | decide | (simp [b_blen, Bx.R]; done) | (simp [b_blen, Bx.R]; omega)) (hs := by first | decide | (simp [b_blen, Bx.R]; done) | (simp [b_blen, Bx.R]; omega))
  rw [e1] at H2
  have H2 : Hr x b_blen Z EL1 0 0 h0 [] 4 #[.val (.ref s)] [.int (Int32.ofNat bs.length)] := H2
  exact H2.finI d_blen_4 ⟨rfl, rfl, rfl⟩ sub0
def b_ail1 : Bx := (({ frames := 0, cells := 0, slots := 0, locals := 0 } : Room), (⟨"java/lang/AbstractStringBuilder", "isLatin1", "()Z"⟩ : MethodName), jdk_68_method_68_code, 1, (Option.some Jvm.ClassFile.FieldType.boolean))
theorem ef_ail1 (s : Addr) (mI : MethodId) : entryFrame mI #[.ref s] 1 = mkF mI 0 #[.val (.ref s)] [] := by first | (simp [entryFrame, mkF, argsToLocals, Value.category]; done) | rfl
theorem pd_ail1 : parseMethodDescriptor "()Z" = some ⟨[], some .boolean⟩ := by decide +kernel
set_option maxRecDepth 65536 in
set_option maxHeartbeats 4000000 in
theorem ct_ail1 {a0 : Array Value} {Z : State} (hw : ∀ d ∈ tables_1, d.before a0 Z = true) (l : Launch) (nar kn : Bool) (hnr : nar = false) (h0 : Heap) (s t : Addr) (bs : List Int32) (r : Nat) (F : Sbd Z h0 s t bs r) (cz : Int32) (O : Sta Z Z.heap "java/lang/String" "COMPACT_STRINGS" "Z" (.int cz)) (hcz : ¬ cz = 0) :
    Ct l Z EL1 (⟨"java/lang/AbstractStringBuilder", "isLatin1", "()Z"⟩ : MethodName) jdk_68_method_68_code 1 (Option.some Jvm.ClassFile.FieldType.boolean) ({ frames := 0, cells := 0, slots := 0, locals := 0 } : Room) #[.ref s] h0 [] nar kn (fun v h sn => v = some (.int 1) ∧ sn = [] ∧ h = h0) := by
  refine Ct.intro (plainFor_of_name pn_java_lang_AbstractStringBuilder) (ew hw) (ef_ail1 s) ?_
  intro x hl hn0 hkn hsf hh H0
  have hnar : x.nar = false := hn0.trans hnr
  have H0 : Hr x b_ail1 Z EL1 0 0 h0 [] 0 #[.val (.ref s)] [] := H0
  have H1 : Hr x b_ail1 Z EL1 0 0 h0 [] 3 #[.val (.ref s)] [.int cz] := H0.getS (w41 hw) (O.ext H0.old) d_ail1_0
  have H2 : Hr x b_ail1 Z EL1 0 0 h0 [] 6 #[.val (.ref s)] [] := H1.ifF d_ail1_3 (XT.i0_eq_f hcz)
  have H3 : Hr x b_ail1 Z EL1 0 0 h0 [] 7 #[.val (.ref s)] [.ref s] := H2.aloadN d_ail1_6
  have H4 : Hr x b_ail1 Z EL1 0 0 h0 [] 10 #[.val (.ref s)] [.int (0 : Int32)] := H3.getF (w44 hw) F.2.2.1 d_ail1_7
  have H5 : Hr x b_ail1 Z EL1 0 0 h0 [] 13 #[.val (.ref s)] [] := H4.ifF d_ail1_10 (XT.i0_ne_f rfl)
  have H6 : Hr x b_ail1 Z EL1 0 0 h0 [] 14 #[.val (.ref s)] [.int (1 : Int32)] := H5.iconst d_ail1_13
  have H7 : Hr x b_ail1 Z EL1 0 0 h0 [] 18 #[.val (.ref s)] [.int (1 : Int32)] := H6.goto d_ail1_14
  exact H7.finZ d_ail1_18 (t := .boolean) (by first | rfl | decide) ⟨rfl, rfl, rfl⟩ sub0
def b_mmin : Bx := (({ frames := 0, cells := 0, slots := 0, locals := 0 } : Room), (⟨"java/lang/Math", "min", "(II)I"⟩ : MethodName), jdk_29_method_69_code, 2, (Option.some Jvm.ClassFile.FieldType.int))
theorem ef_mmin (m n : Nat) (mI : MethodId) : entryFrame mI #[.int (Int32.ofNat m), .int (Int32.ofNat n)] 2 = mkF mI 0 #[.val (.int (Int32.ofNat m)), .val (.int (Int32.ofNat n))] [] := by first | (simp [entryFrame, mkF, argsToLocals, Value.category]; done) | rfl
theorem pf_mmin : plainFor (⟨"java/lang/Math", "min", "(II)I"⟩ : MethodName) = true := by decide +kernel
theorem pd_mmin : parseMethodDescriptor "(II)I" = some ⟨[.int, .int], some .int⟩ := by decide +kernel
set_option maxRecDepth 65536 in
set_option maxHeartbeats 4000000 in
theorem ct_mmin {a0 : Array Value} {Z : State} (hw : ∀ d ∈ tables_1, d.before a0 Z = true) (l : Launch) (nar kn : Bool) (hnr : nar = false) (h0 : Heap) (m n : Nat) (hmn : n ≤ m) (hm : m < 2147483648) :
    Ct l Z EL1 (⟨"java/lang/Math", "min", "(II)I"⟩ : MethodName) jdk_29_method_69_code 2 (Option.some Jvm.ClassFile.FieldType.int) ({ frames := 0, cells := 0, slots := 0, locals := 0 } : Room) #[.int (Int32.ofNat m), .int (Int32.ofNat n)] h0 [] nar kn (fun v h sn => v = some (.int (Int32.ofNat n)) ∧ sn = [] ∧ h = h0) := by
  refine Ct.intro pf_mmin (ew hw) (ef_mmin m n) ?_
  intro x hl hn0 hkn hsf hh H0
  have hnar : x.nar = false := hn0.trans hnr
  have H0 : Hr x b_mmin Z EL1 0 0 h0 [] 0 #[.val (.int (Int32.ofNat m)), .val (.int (Int32.ofNat n))] [] := H0
  have H1 : Hr x b_mmin Z EL1 0 0 h0 [] 1 #[.val (.int (Int32.ofNat m)), .val (.int (Int32.ofNat n))] [.int (Int32.ofNat m)] := H0.iloadN d_mmin_0
  have H2 : Hr x b_mmin Z EL1 0 0 h0 [] 2 #[.val (.int (Int32.ofNat m)), .val (.int (Int32.ofNat n))] [.int (Int32.ofNat n), .int (Int32.ofNat m)] := H1.iloadN d_mmin_1
  by_cases q : n < m
  · have q2 : Int32.ofNat n < Int32.ofNat m := by rw [Int32.lt_iff_toInt_lt, toInt_of rfl (by omega), toInt_of rfl (by omega)]; omega
    have H3 : Hr x b_mmin Z EL1 0 0 h0 [] 9 #[.val (.int (Int32.ofNat m)), .val (.int (Int32.ofNat n))] [] := H2.icmpT d_mmin_2 (XT.ii_gt_t q2)
    have H4 : Hr x b_mmin Z EL1 0 0 h0 [] 10 #[.val (.int (Int32.ofNat m)), .val (.int (Int32.ofNat n))] [.int (Int32.ofNat n)] := H3.iloadN d_mmin_9
    exact H4.finI d_mmin_10 ⟨rfl, rfl, rfl⟩ sub0
  · obtain rfl : m = n := by omega
    have H5 : Hr x b_mmin Z EL1 0 0 h0 [] 5 #[.val (.int (Int32.ofNat m)), .val (.int (Int32.ofNat m))] [] := H2.icmpF d_mmin_2 (XT.ii_gt_f (by simp))
    have H6 : Hr x b_mmin Z EL1 0 0 h0 [] 6 #[.val (.int (Int32.ofNat m)), .val (.int (Int32.ofNat m))] [.int (Int32.ofNat m)] := H5.iloadN d_mmin_5
    have H7 : Hr x b_mmin Z EL1 0 0 h0 [] 10 #[.val (.int (Int32.ofNat m)), .val (.int (Int32.ofNat m))] [.int (Int32.ofNat m)] := H6.goto d_mmin_6
    exact H7.finI d_mmin_10 ⟨rfl, rfl, rfl⟩ sub0
def b_ckl : Bx := (({ frames := 0, cells := 0, slots := 0, locals := 0 } : Room), (⟨"java/util/Arrays", "checkLength", "(II)V"⟩ : MethodName), jdk_65_method_131_code, 2, (Option.none : Option Jvm.ClassFile.FieldType))
theorem ef_ckl (n : Nat) (mI : MethodId) : entryFrame mI #[.int (0 : Int32), .int (Int32.ofNat n)] 2 = mkF mI 0 #[.val (.int (0 : Int32)), .val (.int (Int32.ofNat n))] [] := by first | (simp [entryFrame, mkF, argsToLocals, Value.category]; done) | rfl
theorem pn_java_util_Arrays : plainName "java/util/Arrays" = true := by first | (simp [plainName, overriddenIn]; done) | decide +kernel
theorem pd_ckl : parseMethodDescriptor "(II)V" = some ⟨[.int, .int], none⟩ := by decide +kernel
set_option maxRecDepth 65536 in
set_option maxHeartbeats 4000000 in
theorem ct_ckl {a0 : Array Value} {Z : State} (hw : ∀ d ∈ tables_1, d.before a0 Z = true) (l : Launch) (nar kn : Bool) (hnr : nar = false) (h0 : Heap) (n : Nat) (hn : n < 2147483648) :
    Ct l Z EL1 (⟨"java/util/Arrays", "checkLength", "(II)V"⟩ : MethodName) jdk_65_method_131_code 2 (Option.none : Option Jvm.ClassFile.FieldType) ({ frames := 0, cells := 0, slots := 0, locals := 0 } : Room) #[.int (0 : Int32), .int (Int32.ofNat n)] h0 [] nar kn (fun v h sn => v = none ∧ sn = [] ∧ h = h0) := by
  refine Ct.intro (plainFor_of_name pn_java_util_Arrays) (ew hw) (ef_ckl n) ?_
  intro x hl hn0 hkn hsf hh H0
  have hnar : x.nar = false := hn0.trans hnr
  have H0 : Hr x b_ckl Z EL1 0 0 h0 [] 0 #[.val (.int (0 : Int32)), .val (.int (Int32.ofNat n))] [] := H0
  have H1 : Hr x b_ckl Z EL1 0 0 h0 [] 1 #[.val (.int (0 : Int32)), .val (.int (Int32.ofNat n))] [.int (Int32.ofNat n)] := H0.iloadN d_ckl_0
  have H2 : Hr x b_ckl Z EL1 0 0 h0 [] 2 #[.val (.int (0 : Int32)), .val (.int (Int32.ofNat n))] [.int (0 : Int32), .int (Int32.ofNat n)] := H1.iloadN d_ckl_1
  have H3 : Hr x b_ckl Z EL1 0 0 h0 [] 37 #[.val (.int (0 : Int32)), .val (.int (Int32.ofNat n))] [] := H2.icmpT d_ckl_2 (XT.ii_ge_t (nn32 hn))
  exact H3.finN d_ckl_37 rfl (by decide) (by decide) sub0 ⟨rfl, rfl, rfl⟩
def b_corb (n : Nat) : Bx := (({ frames := 1, cells := 1, slots := n, locals := 18 } : Room), (⟨"java/util/Arrays", "copyOfRangeByte", "([BII)[B"⟩ : MethodName), jdk_65_method_133_code, 5, (Option.some (Jvm.ClassFile.FieldType.array Jvm.ClassFile.FieldType.byte)))
theorem ef_corb (a : Addr) (n : Nat) (mI : MethodId) : entryFrame mI #[.ref a, .int (0 : Int32), .int (Int32.ofNat n)] 5 = mkF mI 0 #[.val (.ref a), .val (.int (0 : Int32)), .val (.int (Int32.ofNat n)), .unset, .unset] [] := by first | (simp [entryFrame, mkF, argsToLocals, Value.category]; done) | rfl
theorem pd_corb : parseMethodDescriptor "([BII)[B" = some ⟨[(.array .byte), .int, .int], some (.array .byte)⟩ := by decide +kernel
set_option maxRecDepth 65536 in
set_option maxHeartbeats 4000000 in
theorem ct_corb {a0 : Array Value} {Z : State} (hw : ∀ d ∈ tables_1, d.before a0 Z = true) (l : Launch) (nar kn : Bool) (hnr : nar = false) (h0 : Heap) (a : Addr) (n : Nat) (vs : List Value) (Fa : Ar Z h0 a .byte vs) (bv : ∀ v ∈ vs, fits .byte v = true) (hn : n < vs.length) (hcap : n ≤ 4000) :
    Ct l Z EL1 (⟨"java/util/Arrays", "copyOfRangeByte", "([BII)[B"⟩ : MethodName) jdk_65_method_133_code 5 (Option.some (Jvm.ClassFile.FieldType.array Jvm.ClassFile.FieldType.byte)) ({ frames := 1, cells := 1, slots := n, locals := 18 } : Room) #[.ref a, .int (0 : Int32), .int (Int32.ofNat n)] h0 [] nar kn (fun v h sn => ∃ u, v = some (.ref u) ∧ h0.size ≤ u ∧ sn = [u] ∧ Ar Z h u .byte (vs.take n)) := by
  refine Ct.intro (plainFor_of_name pn_java_util_Arrays) (ew hw) (ef_corb a n) ?_
  intro x hl hn0 hkn hsf hh H0
  have hnar : x.nar = false := hn0.trans hnr
  have H0 : Hr x (b_corb n) Z EL1 0 0 h0 [] 0 #[.val (.ref a), .val (.int (0 : Int32)), .val (.int (Int32.ofNat n)), .unset, .unset] [] := H0
  have hl := Fa.len
  have hclamp : (Int32.ofNat n).toNatClampNeg = n := clamp_of rfl (by omega)
  have H1 : Hr x (b_corb n) Z EL1 0 0 h0 [] 1 #[.val (.ref a), .val (.int (0 : Int32)), .val (.int (Int32.ofNat n)), .unset, .unset] [.int (0 : Int32)] := H0.iloadN d_corb_0
  have H2 : Hr x (b_corb n) Z EL1 0 0 h0 [] 2 #[.val (.ref a), .val (.int (0 : Int32)), .val (.int (Int32.ofNat n)), .unset, .unset] [.int (Int32.ofNat n), .int (0 : Int32)] := H1.iloadN d_corb_1
  obtain ⟨_, h1, _, ⟨rfl, rfl, e1⟩, K1, H3⟩ := H2.callS (argsL := [.int (0 : Int32), .int (Int32.ofNat n)]) (rest := []) (Wr := 0) (ct_ckl hw x.l x.nar x.kn hnar h0 n (by omega)) sub0 (w132 hw) (w133 hw) (w127 hw) (w134 hw) d_corb_2 pd_ckl rfl (hf := by first | (simp [b_corb, Bx.R]; done) | (simp [b_corb, Bx.R]; omega)) (hl := by first | (simp [b_corb, Bx.R]; done) | (simp [b_corb, Bx.R]; omega)) (hc := by first | (simp [b_corb, Bx.R]; done) | (simp [b_corb, Bx.R]; omega)) (hs := by first | (simp [b_corb, Bx.R]; done) | (simp [b_corb, Bx.R]; omega))
  rw [e1] at H3
  have H3 : Hr x (b_corb n) Z EL1 0 0 h0 [] 5 #[.val (.ref a), .val (.int (0 : Int32)), .val (.int (Int32.ofNat n)), .unset, .unset] [] := H3
  have H4 : Hr x (b_corb n) Z EL1 0 0 h0 [] 6 #[.val (.ref a), .val (.int (0 : Int32)), .val (.int (Int32.ofNat n)), .unset, .unset] [.int (Int32.ofNat n)] := H3.iloadN d_corb_5
  have H5 : Hr x (b_corb n) Z EL1 0 0 h0 [] 7 #[.val (.ref a), .val (.int (0 : Int32)), .val (.int (Int32.ofNat n)), .unset, .unset] [.int (0 : Int32), .int (Int32.ofNat n)] := H4.iloadN d_corb_6
  have H6 : Hr x (b_corb n) Z EL1 0 0 h0 [] 8 #[.val (.ref a), .val (.int (0 : Int32)), .val (.int (Int32.ofNat n)), .unset, .unset] [.int (Int32.ofNat n)] := H5.isub d_corb_7 (hv := (by simp))
  have H7 : Hr x (b_corb n) Z EL1 0 0 h0 [] 9 #[.val (.ref a), .val (.int (0 : Int32)), .val (.int (Int32.ofNat n)), .val (.int (Int32.ofNat n)), .unset] [] := H6.istoreN d_corb_8
  have H8 : Hr x (b_corb n) Z EL1 0 0 h0 [] 10 #[.val (.ref a), .val (.int (0 : Int32)), .val (.int (Int32.ofNat n)), .val (.int (Int32.ofNat n)), .unset] [.int (Int32.ofNat n)] := H7.iloadN d_corb_9
  obtain ⟨h2, E2, Fu, H9⟩ := H8.newarray (aty := .byte) (cap := n) (w15 hw) d_corb_10 (nn32 (by omega)) (Nat.le_of_eq hclamp) (by omega) (by first | (simp [b_corb, Bx.R]; done) | (simp [b_corb, Bx.R]; omega)) (by first | (simp [b_corb, Bx.R]; done) | (simp [b_corb, Bx.R]; omega))
  obtain ⟨u, g_u⟩ : ∃ z, z = h0.size := ⟨_, rfl⟩
  rw [← g_u] at Fu H9
  have Fu : Ar Z h2 u .byte (List.replicate n (.int 0)) := (by have := Fu; rw [hclamp] at this; exact this)
  have H9 : Hr x (b_corb n) Z EL1 1 (0 + n) h2 [u] 12 #[.val (.ref a), .val (.int (0 : Int32)), .val (.int (Int32.ofNat n)), .val (.int (Int32.ofNat n)), .unset] [.ref u] := H9
  have H10 : Hr x (b_corb n) Z EL1 1 (0 + n) h2 [u] 14 #[.val (.ref a), .val (.int (0 : Int32)), .val (.int (Int32.ofNat n)), .val (.int (Int32.ofNat n)), .val (.ref u)] [] := H9.astore d_corb_12
  have H11 : Hr x (b_corb n) Z EL1 1 (0 + n) h2 [u] 15 #[.val (.ref a), .val (.int (0 : Int32)), .val (.int (Int32.ofNat n)), .val (.int (Int32.ofNat n)), .val (.ref u)] [.ref a] := H10.aloadN d_corb_14
  have H12 : Hr x (b_corb n) Z EL1 1 (0 + n) h2 [u] 16 #[.val (.ref a), .val (.int (0 : Int32)), .val (.int (Int32.ofNat n)), .val (.int (Int32.ofNat n)), .val (.ref u)] [.int (0 : Int32), .ref a] := H11.iloadN d_corb_15
  have H13 : Hr x (b_corb n) Z EL1 1 (0 + n) h2 [u] 18 #[.val (.ref a), .val (.int (0 : Int32)), .val (.int (Int32.ofNat n)), .val (.int (Int32.ofNat n)), .val (.ref u)] [.ref u, .int (0 : Int32), .ref a] := H12.aload d_corb_16
  have H14 : Hr x (b_corb n) Z EL1 1 (0 + n) h2 [u] 19 #[.val (.ref a), .val (.int (0 : Int32)), .val (.int (Int32.ofNat n)), .val (.int (Int32.ofNat n)), .val (.ref u)] [.int (0 : Int32), .ref u, .int (0 : Int32), .ref a] := H13.iconst d_corb_18
  have H15 : Hr x (b_corb n) Z EL1 1 (0 + n) h2 [u] 20 #[.val (.ref a), .val (.int (0 : Int32)), .val (.int (Int32.ofNat n)), .val (.int (Int32.ofNat n)), .val (.ref u)] [.ref a, .int (0 : Int32), .ref u, .int (0 : Int32), .ref a] := H14.aloadN d_corb_19
  have H16 : Hr x (b_corb n) Z EL1 1 (0 + n) h2 [u] 21 #[.val (.ref a), .val (.int (0 : Int32)), .val (.int (Int32.ofNat n)), .val (.int (Int32.ofNat n)), .val (.ref u)] [.int (Int32.ofNat vs.length), .int (0 : Int32), .ref u, .int (0 : Int32), .ref a] := H15.arraylength (Fa.ext E2) d_corb_20
  have H17 : Hr x (b_corb n) Z EL1 1 (0 + n) h2 [u] 22 #[.val (.ref a), .val (.int (0 : Int32)), .val (.int (Int32.ofNat n)), .val (.int (Int32.ofNat n)), .val (.ref u)] [.int (0 : Int32), .int (Int32.ofNat vs.length), .int (0 : Int32), .ref u, .int (0 : Int32), .ref a] := H16.iloadN d_corb_21
  have H18 : Hr x (b_corb n) Z EL1 1 (0 + n) h2 [u] 23 #[.val (.ref a), .val (.int (0 : Int32)), .val (.int (Int32.ofNat n)), .val (.int (Int32.ofNat n)), .val (.ref u)] [.int (Int32.ofNat vs.length), .int (0 : Int32), .ref u, .int (0 : Int32), .ref a] := H17.isub d_corb_22 (hv := (by simp))
  have H19 : Hr x (b_corb n) Z EL1 1 (0 + n) h2 [u] 24 #[.val (.ref a), .val (.int (0 : Int32)), .val (.int (Int32.ofNat n)), .val (.int (Int32.ofNat n)), .val (.ref u)] [.int (Int32.ofNat n), .int (Int32.ofNat vs.length), .int (0 : Int32), .ref u, .int (0 : Int32), .ref a] := H18.iloadN d_corb_23
  obtain ⟨_, h3, _, ⟨rfl, rfl, e3⟩, K3, H20⟩ := H19.callS (argsL := [.int (Int32.ofNat vs.length), .int (Int32.ofNat n)]) (rest := [.int (0 : Int32), .ref u, .int (0 : Int32), .ref a]) (Wr := 4) (ct_mmin hw x.l x.nar x.kn hnar h2 vs.length n (by omega) hl) sub0 (w135 hw) (w136 hw) (w137 hw) (w138 hw) d_corb_24 pd_mmin rfl (hf := by first | (simp [b_corb, Bx.R]; done) | (simp [b_corb, Bx.R]; omega)) (hl := by first | (simp [b_corb, Bx.R]; done) | (simp [b_corb, Bx.R]; omega)) (hc := by first | (simp [b_corb, Bx.R]; done) | (simp [b_corb, Bx.R]; omega)) (hs := by first | (simp [b_corb, Bx.R]; done) | (simp [b_corb, Bx.R]; omega))
  rw [e3] at H20
  have H20 : Hr x (b_corb n) Z EL1 1 (0 + n + 0) h2 [u] 27 #[.val (.ref a), .val (.int (0 : Int32)), .val (.int (Int32.ofNat n)), .val (.int (Int32.ofNat n)), .val (.ref u)] [.int (Int32.ofNat n), .int (0 : Int32), .ref u, .int (0 : Int32), .ref a] := H20
  obtain ⟨h4, K4, Fu4, H21⟩ := H20.arraycopy (i := 0) (j := 0) (n := n) (Wr := 0) (ty := .byte) (by simp) (w139 hw) (w94 hw) (w92 hw) (w93 hw) (Fa.ext E2) Fu (by decide) bv (fun v hv => by rw [List.eq_of_mem_replicate hv]; rfl) (by omega) (by simp) d_corb_27 (hf := by first | (simp [b_corb, Bx.R]; done) | (simp [b_corb, Bx.R]; omega)) (hl := by first | (simp [b_corb, Bx.R]; done) | (simp [b_corb, Bx.R]; omega))
  have H21 : Hr x (b_corb n) Z EL1 1 (0 + n + 0) h4 [u] 30 #[.val (.ref a), .val (.int (0 : Int32)), .val (.int (Int32.ofNat n)), .val (.int (Int32.ofNat n)), .val (.ref u)] [] := H21
  have H22 : Hr x (b_corb n) Z EL1 1 (0 + n + 0) h4 [u] 32 #[.val (.ref a), .val (.int (0 : Int32)), .val (.int (Int32.ofNat n)), .val (.int (Int32.ofNat n)), .val (.ref u)] [.ref u] := H21.aload d_corb_30
  exact H22.finA d_corb_32 ⟨u, rfl, by omega, rfl, by simpa using Fu4⟩ (sub1 (by simp)) (hK := by first | (simp [b_corb, Bx.R]; done) | (simp [b_corb, Bx.R]; omega)) (hS := by first | (simp [b_corb, Bx.R]; done) | (simp [b_corb, Bx.R]; omega))
def b_cor (n : Nat) : Bx := (({ frames := 2, cells := 1, slots := n, locals := 34 } : Room), (⟨"java/util/Arrays", "copyOfRange", "([BII)[B"⟩ : MethodName), jdk_65_method_132_code, 3, (Option.some (Jvm.ClassFile.FieldType.array Jvm.ClassFile.FieldType.byte)))
theorem ef_cor (a : Addr) (n : Nat) (mI : MethodId) : entryFrame mI #[.ref a, .int (0 : Int32), .int (Int32.ofNat n)] 3 = mkF mI 0 #[.val (.ref a), .val (.int (0 : Int32)), .val (.int (Int32.ofNat n))] [] := by first | (simp [entryFrame, mkF, argsToLocals, Value.category]; done) | rfl
theorem pd_cor : parseMethodDescriptor "([BII)[B" = some ⟨[(.array .byte), .int, .int], some (.array .byte)⟩ := by decide +kernel
set_option maxRecDepth 65536 in
set_option maxHeartbeats 4000000 in
theorem ct_cor {a0 : Array Value} {Z : State} (hw : ∀ d ∈ tables_1, d.before a0 Z = true) (l : Launch) (nar kn : Bool) (hnr : nar = false) (h0 : Heap) (a : Addr) (n : Nat) (vs : List Value) (Fa : Ar Z h0 a .byte vs) (bv : ∀ v ∈ vs, fits .byte v = true) (hn : n < vs.length) (hcap : n ≤ 4000) :
    Ct l Z EL1 (⟨"java/util/Arrays", "copyOfRange", "([BII)[B"⟩ : MethodName) jdk_65_method_132_code 3 (Option.some (Jvm.ClassFile.FieldType.array Jvm.ClassFile.FieldType.byte)) ({ frames := 2, cells := 1, slots := n, locals := 34 } : Room) #[.ref a, .int (0 : Int32), .int (Int32.ofNat n)] h0 [] nar kn (fun v h sn => ∃ u, v = some (.ref u) ∧ h0.size ≤ u ∧ sn = [u] ∧ Ar Z h u .byte (vs.take n)) := by
  refine Ct.intro (plainFor_of_name pn_java_util_Arrays) (ew hw) (ef_cor a n) ?_
  intro x hl hn0 hkn hsf hh H0
  have hnar : x.nar = false := hn0.trans hnr
  have H0 : Hr x (b_cor n) Z EL1 0 0 h0 [] 0 #[.val (.ref a), .val (.int (0 : Int32)), .val (.int (Int32.ofNat n))] [] := H0
  have hl := Fa.len
  have H1 : Hr x (b_cor n) Z EL1 0 0 h0 [] 1 #[.val (.ref a), .val (.int (0 : Int32)), .val (.int (Int32.ofNat n))] [.int (0 : Int32)] := H0.iloadN d_cor_0
  have H2 : Hr x (b_cor n) Z EL1 0 0 h0 [] 4 #[.val (.ref a), .val (.int (0 : Int32)), .val (.int (Int32.ofNat n))] [] := H1.ifF d_cor_1 (XT.i0_ne_f rfl)
  have H3 : Hr x (b_cor n) Z EL1 0 0 h0 [] 5 #[.val (.ref a), .val (.int (0 : Int32)), .val (.int (Int32.ofNat n))] [.int (Int32.ofNat n)] := H2.iloadN d_cor_4
  have H4 : Hr x (b_cor n) Z EL1 0 0 h0 [] 6 #[.val (.ref a), .val (.int (0 : Int32)), .val (.int (Int32.ofNat n))] [.ref a, .int (Int32.ofNat n)] := H3.aloadN d_cor_5
  have H5 : Hr x (b_cor n) Z EL1 0 0 h0 [] 7 #[.val (.ref a), .val (.int (0 : Int32)), .val (.int (Int32.ofNat n))] [.int (Int32.ofNat vs.length), .int (Int32.ofNat n)] := H4.arraylength Fa d_cor_6
  have H6 : Hr x (b_cor n) Z EL1 0 0 h0 [] 10 #[.val (.ref a), .val (.int (0 : Int32)), .val (.int (Int32.ofNat n))] [] := H5.icmpF d_cor_7 (XT.ii_eq_f fun q => by have := ofNat_inj (by omega) hl q; omega)
  have H7 : Hr x (b_cor n) Z EL1 0 0 h0 [] 11 #[.val (.ref a), .val (.int (0 : Int32)), .val (.int (Int32.ofNat n))] [.ref a] := H6.aloadN d_cor_10
  have H8 : Hr x (b_cor n) Z EL1 0 0 h0 [] 12 #[.val (.ref a), .val (.int (0 : Int32)), .val (.int (Int32.ofNat n))] [.int (0 : Int32), .ref a] := H7.iloadN d_cor_11
  have H9 : Hr x (b_cor n) Z EL1 0 0 h0 [] 13 #[.val (.ref a), .val (.int (0 : Int32)), .val (.int (Int32.ofNat n))] [.int (Int32.ofNat n), .int (0 : Int32), .ref a] := H8.iloadN d_cor_12
  obtain ⟨_, h1, _, ⟨u, rfl, hu, rfl, Fu⟩, K1, H10⟩ := H9.callS (argsL := [.ref a, .int (0 : Int32), .int (Int32.ofNat n)]) (rest := []) (Wr := 0) (ct_corb hw x.l x.nar x.kn hnar h0 a n vs Fa bv hn hcap) sub0 (w129 hw) (w130 hw) (w127 hw) (w131 hw) d_cor_13 pd_corb rfl (hf := by first | (simp [b_cor, Bx.R]; done) | (simp [b_cor, Bx.R]; omega)) (hl := by first | (simp [b_cor, Bx.R]; done) | (simp [b_cor, Bx.R]; omega)) (hc := by first | (simp [b_cor, Bx.R]; done) | (simp [b_cor, Bx.R]; omega)) (hs := by first | (simp [b_cor, Bx.R]; done) | (simp [b_cor, Bx.R]; omega))
  have H10 : Hr x (b_cor n) Z EL1 1 (0 + n) h1 [u] 16 #[.val (.ref a), .val (.int (0 : Int32)), .val (.int (Int32.ofNat n))] [.ref u] := H10
  exact H10.finA d_cor_16 ⟨u, rfl, hu, rfl, Fu⟩ (sub1 (by simp)) (hK := by first | (simp [b_cor, Bx.R]; done) | (simp [b_cor, Bx.R]; omega)) (hS := by first | (simp [b_cor, Bx.R]; done) | (simp [b_cor, Bx.R]; omega))
def b_siav (n : Nat) : Bx := (({ frames := 3, cells := 1, slots := n, locals := 49 } : Room), (⟨"java/lang/String", "<init>", "(Ljava/lang/AbstractStringBuilder;Ljava/lang/Void;)V"⟩ : MethodName), jdk_42_method_150_code, 5, (Option.none : Option Jvm.ClassFile.FieldType))
theorem ef_siav (q s : Addr) (mI : MethodId) : entryFrame mI #[.ref q, .ref s, .null] 5 = mkF mI 0 #[.val (.ref q), .val (.ref s), .val (.null), .unset, .unset] [] := by first | (simp [entryFrame, mkF, argsToLocals, Value.category]; done) | rfl
theorem pd_siav : parseMethodDescriptor "(Ljava/lang/AbstractStringBuilder;Ljava/lang/Void;)V" = some ⟨[(.object "java/lang/AbstractStringBuilder"), (.object "java/lang/Void")], none⟩ := by decide +kernel
set_option maxRecDepth 65536 in
set_option maxHeartbeats 4000000 in
theorem ct_siav {a0 : Array Value} {Z : State} (hw : ∀ d ∈ tables_1, d.before a0 Z = true) (l : Launch) (nar kn : Bool) (hnr : nar = false) (h0 : Heap) (q s t : Addr) (bs : List Int32) (r : Nat) (Eq : Exa Z h0 q "java/lang/String") (Fc : Fld Z h0 q "java/lang/String" "coder" "B" (.int 0)) (Fv : Fld Z h0 q "java/lang/String" "value" "[B" .null) (F : Sbd Z h0 s t bs r) (bb : BL bs) (hr : 0 < r) (hcap : bs.length ≤ 4000) (cz : Int32) (O : Sta Z Z.heap "java/lang/String" "COMPACT_STRINGS" "Z" (.int cz)) (hcz : ¬ cz = 0) :
    Ct l Z EL1 (⟨"java/lang/String", "<init>", "(Ljava/lang/AbstractStringBuilder;Ljava/lang/Void;)V"⟩ : MethodName) jdk_42_method_150_code 5 (Option.none : Option Jvm.ClassFile.FieldType) ({ frames := 3, cells := 1, slots := bs.length, locals := 49 } : Room) #[.ref q, .ref s, .null] h0 [q] nar kn (fun v h sn => v = none ∧ sn = [] ∧ ∃ u, Str Z h q u bs) := by
  refine Ct.intro (plainFor_of_name pn_java_lang_String) (ew hw) (ef_siav q s) ?_
  intro x hl hn0 hkn hsf hh H0
  have hnar : x.nar = false := hn0.trans hnr
  have H0 : Hr x (b_siav bs.length) Z EL1 0 0 h0 [q] 0 #[.val (.ref q), .val (.ref s), .val (.null), .unset, .unset] [] := H0
  have slne := slot_ne (a0 := a0) (C := "java/lang/String") (n := "value") (n' := "coder") (Or.inr (w16 hw)) (Or.inr (w17 hw)) (by decide) (t := .array .byte) (t' := .byte) (by decide) (by decide)
  have H1 : Hr x (b_siav bs.length) Z EL1 0 0 h0 [q] 1 #[.val (.ref q), .val (.ref s), .val (.null), .unset, .unset] [.ref q] := H0.aloadN d_siav_0
  have H2 : Hr x (b_siav bs.length) Z EL1 0 0 h0 [q] 4 #[.val (.ref q), .val (.ref s), .val (.null), .unset, .unset] [] := H1.initO (Wr := 0) (w11 hw) (w12 hw) (w13 hw) d_siav_1 (hf := by first | (simp [b_siav, Bx.R]; done) | (simp [b_siav, Bx.R]; omega)) (hl := by first | (simp [b_siav, Bx.R]; done) | (simp [b_siav, Bx.R]; omega))
  have H3 : Hr x (b_siav bs.length) Z EL1 0 0 h0 [q] 5 #[.val (.ref q), .val (.ref s), .val (.null), .unset, .unset] [.ref s] := H2.aloadN d_siav_4
  obtain ⟨_, h1, _, ⟨rfl, rfl, e1⟩, K1, H4⟩ := H3.callV (argsL := []) (rest := []) (Wr := 0) (a := s) (ct_gval hw x.l x.nar x.kn hnar h0 s t bs r F) sub0 F.1 (w107 hw) (w108 hw) (w110 hw) (w110 hw) (w109 hw) (w38 hw) (w111 hw) d_siav_5 pd_gval rfl (hf := by first | (simp [b_siav, Bx.R]; done) | (simp [b_siav, Bx.R]; omega)) (hl := by first | (simp [b_siav, Bx.R]; done) | (simp [b_siav, Bx.R]; omega)) (hc := by first | (simp [b_siav, Bx.R]; done) | (simp [b_siav, Bx.R]; omega)) (hs := by first | (simp [b_siav, Bx.R]; done) | (simp [b_siav, Bx.R]; omega))
  rw [e1] at H4
  have H4 : Hr x (b_siav bs.length) Z EL1 0 0 h0 [q] 8 #[.val (.ref q), .val (.ref s), .val (.null), .unset, .unset] [.ref t] := H4
  have H5 : Hr x (b_siav bs.length) Z EL1 0 0 h0 [q] 9 #[.val (.ref q), .val (.ref s), .val (.null), .val (.ref t), .unset] [] := H4.astoreN d_siav_8
  have H6 : Hr x (b_siav bs.length) Z EL1 0 0 h0 [q] 10 #[.val (.ref q), .val (.ref s), .val (.null), .val (.ref t), .unset] [.ref s] := H5.aloadN d_siav_9
  obtain ⟨_, h2, _, ⟨rfl, rfl, e2⟩, K2, H7⟩ := H6.callV (argsL := []) (rest := []) (Wr := 0) (a := s) (ct_blen hw x.l x.nar x.kn hnar h0 s t bs r F) sub0 F.1 (w112 hw) (w113 hw) (w73 hw) (w115 hw) (w116 hw) (w30 hw) (w117 hw) d_siav_10 pd_blen rfl (hf := by first | (simp [b_siav, Bx.R]; done) | (simp [b_siav, Bx.R]; omega)) (hl := by first | (simp [b_siav, Bx.R]; done) | (simp [b_siav, Bx.R]; omega)) (hc := by first | (simp [b_siav, Bx.R]; done) | (simp [b_siav, Bx.R]; omega)) (hs := by first | (simp [b_siav, Bx.R]; done) | (simp [b_siav, Bx.R]; omega))
  rw [e2] at H7
  have H7 : Hr x (b_siav bs.length) Z EL1 0 0 h0 [q] 13 #[.val (.ref q), .val (.ref s), .val (.null), .val (.ref t), .unset] [.int (Int32.ofNat bs.length)] := H7
  have H8 : Hr x (b_siav bs.length) Z EL1 0 0 h0 [q] 15 #[.val (.ref q), .val (.ref s), .val (.null), .val (.ref t), .val (.int (Int32.ofNat bs.length))] [] := H7.istore d_siav_13
  have H9 : Hr x (b_siav bs.length) Z EL1 0 0 h0 [q] 16 #[.val (.ref q), .val (.ref s), .val (.null), .val (.ref t), .val (.int (Int32.ofNat bs.length))] [.ref s] := H8.aloadN d_siav_15
  obtain ⟨_, h3, _, ⟨rfl, rfl, e3⟩, K3, H10⟩ := H9.callV (argsL := []) (rest := []) (Wr := 0) (a := s) (ct_ail1 hw x.l x.nar x.kn hnar h0 s t bs r F cz O hcz) sub0 F.1 (w120 hw) (w121 hw) (w123 hw) (w123 hw) (w122 hw) (w38 hw) (w124 hw) d_siav_16 pd_ail1 rfl (hf := by first | (simp [b_siav, Bx.R]; done) | (simp [b_siav, Bx.R]; omega)) (hl := by first | (simp [b_siav, Bx.R]; done) | (simp [b_siav, Bx.R]; omega)) (hc := by first | (simp [b_siav, Bx.R]; done) | (simp [b_siav, Bx.R]; omega)) (hs := by first | (simp [b_siav, Bx.R]; done) | (simp [b_siav, Bx.R]; omega))
  rw [e3] at H10
  have H10 : Hr x (b_siav bs.length) Z EL1 0 0 h0 [q] 19 #[.val (.ref q), .val (.ref s), .val (.null), .val (.ref t), .val (.int (Int32.ofNat bs.length))] [.int (1 : Int32)] := H10
  have H11 : Hr x (b_siav bs.length) Z EL1 0 0 h0 [q] 22 #[.val (.ref q), .val (.ref s), .val (.null), .val (.ref t), .val (.int (Int32.ofNat bs.length))] [] := H10.ifF d_siav_19 (XT.i0_eq_f (by decide))
  have H12 : Hr x (b_siav bs.length) Z EL1 0 0 h0 [q] 23 #[.val (.ref q), .val (.ref s), .val (.null), .val (.ref t), .val (.int (Int32.ofNat bs.length))] [.ref q] := H11.aloadN d_siav_22
  have H13 : Hr x (b_siav bs.length) Z EL1 0 0 h0 [q] 24 #[.val (.ref q), .val (.ref s), .val (.null), .val (.ref t), .val (.int (Int32.ofNat bs.length))] [.int (0 : Int32), .ref q] := H12.iconst d_siav_23
  obtain ⟨h4, W4, H14⟩ := H13.putF (by simp) (w21 hw) Fc Eq (Or.inr ⟨(w17 hw), rfl, rfl⟩) (w1 hw) d_siav_24 (ty := .byte)
  have H14 : Hr x (b_siav bs.length) Z EL1 0 0 h4 [q] 27 #[.val (.ref q), .val (.ref s), .val (.null), .val (.ref t), .val (.int (Int32.ofNat bs.length))] [] := H14
  have hqt : t ≠ q := fun e => by subst e; exact (Exa.neArv Eq (F.2.2.2.2.arv (dv := .int 0) (bb.app (BL.rep r)).vals).choose_spec (w1 hw)) rfl
  have H15 : Hr x (b_siav bs.length) Z EL1 0 0 h4 [q] 28 #[.val (.ref q), .val (.ref s), .val (.null), .val (.ref t), .val (.int (Int32.ofNat bs.length))] [.ref q] := H14.aloadN d_siav_27
  have H16 : Hr x (b_siav bs.length) Z EL1 0 0 h4 [q] 29 #[.val (.ref q), .val (.ref s), .val (.null), .val (.ref t), .val (.int (Int32.ofNat bs.length))] [.ref t, .ref q] := H15.aloadN d_siav_28
  have H17 : Hr x (b_siav bs.length) Z EL1 0 0 h4 [q] 30 #[.val (.ref q), .val (.ref s), .val (.null), .val (.ref t), .val (.int (Int32.ofNat bs.length))] [.int (0 : Int32), .ref t, .ref q] := H16.iconst d_siav_29
  have H18 : Hr x (b_siav bs.length) Z EL1 0 0 h4 [q] 32 #[.val (.ref q), .val (.ref s), .val (.null), .val (.ref t), .val (.int (Int32.ofNat bs.length))] [.int (Int32.ofNat bs.length), .int (0 : Int32), .ref t, .ref q] := H17.iload d_siav_30
  obtain ⟨_, h5, _, ⟨u, rfl, hu, rfl, Fu⟩, K5, H19⟩ := H18.callS (argsL := [.ref t, .int (0 : Int32), .int (Int32.ofNat bs.length)]) (rest := [.ref q]) (Wr := 1) (ct_cor hw x.l x.nar x.kn hnar h4 t bs.length _ (F.2.2.2.2.other W4 hqt) (bb.app (BL.rep r)).vals (by simp; omega) hcap) sub0 (w125 hw) (w126 hw) (w127 hw) (w128 hw) d_siav_32 pd_cor rfl (hf := by first | (simp [b_siav, Bx.R]; done) | (simp [b_siav, Bx.R]; omega)) (hl := by first | (simp [b_siav, Bx.R]; done) | (simp [b_siav, Bx.R]; omega)) (hc := by first | (simp [b_siav, Bx.R]; done) | (simp [b_siav, Bx.R]; omega)) (hs := by first | (simp [b_siav, Bx.R]; done) | (simp [b_siav, Bx.R]; omega))
  have H19 : Hr x (b_siav bs.length) Z EL1 1 (0 + bs.length) h5 [u, q] 35 #[.val (.ref q), .val (.ref s), .val (.null), .val (.ref t), .val (.int (Int32.ofNat bs.length))] [.ref u, .ref q] := H19
  have hl4 := exa_lt (Eq.wr W4)
  obtain ⟨h6, W6, H20⟩ := H19.putF (by simp) (w20 hw) ((Fv.other W4 (Or.inr slne)).keep K5 nin0) ((Eq.wr W4).keep K5) (Or.inr ⟨(w16 hw), rfl, rfl⟩) (w1 hw) d_siav_35 (ty := (.array .byte))
  have H20 : Hr x (b_siav bs.length) Z EL1 1 (0 + bs.length) h6 [u, q] 38 #[.val (.ref q), .val (.ref s), .val (.null), .val (.ref t), .val (.int (Int32.ofNat bs.length))] [] := H20
  have H21 : Hr x (b_siav bs.length) Z EL1 1 (0 + bs.length) h6 [u, q] 97 #[.val (.ref q), .val (.ref s), .val (.null), .val (.ref t), .val (.int (Int32.ofNat bs.length))] [] := H20.goto d_siav_38
  refine H21.finN d_siav_97 rfl (by first | (simp [b_siav, Bx.R]; done) | (simp [b_siav, Bx.R]; omega)) (by first | (simp [b_siav, Bx.R]; done) | (simp [b_siav, Bx.R]; omega)) sub0 ⟨rfl, rfl, u, ((Eq.wr W4).keep K5).wr W6, ((Fld.same W4 Fc).keep K5 nin0).other W6 (Or.inr (Ne.symm slne)), Fld.same W6 ((Fv.other W4 (Or.inr slne)).keep K5 nin0), ?_⟩
  have := Fu.other W6 (neN (by omega)); simpa using this
def b_sisb (n : Nat) : Bx := (({ frames := 4, cells := 1, slots := n, locals := 65 } : Room), (⟨"java/lang/String", "<init>", "(Ljava/lang/StringBuilder;)V"⟩ : MethodName), jdk_42_method_53_code, 2, (Option.none : Option Jvm.ClassFile.FieldType))
theorem ef_sisb (q s : Addr) (mI : MethodId) : entryFrame mI #[.ref q, .ref s] 2 = mkF mI 0 #[.val (.ref q), .val (.ref s)] [] := by first | (simp [entryFrame, mkF, argsToLocals, Value.category]; done) | rfl
theorem pd_sisb : parseMethodDescriptor "(Ljava/lang/StringBuilder;)V" = some ⟨[(.object "java/lang/StringBuilder")], none⟩ := by decide +kernel
set_option maxRecDepth 65536 in
set_option maxHeartbeats 4000000 in
theorem ct_sisb {a0 : Array Value} {Z : State} (hw : ∀ d ∈ tables_1, d.before a0 Z = true) (l : Launch) (nar kn : Bool) (hnr : nar = false) (h0 : Heap) (q s t : Addr) (bs : List Int32) (r : Nat) (Eq : Exa Z h0 q "java/lang/String") (Fc : Fld Z h0 q "java/lang/String" "coder" "B" (.int 0)) (Fv : Fld Z h0 q "java/lang/String" "value" "[B" .null) (F : Sbd Z h0 s t bs r) (bb : BL bs) (hr : 0 < r) (hcap : bs.length ≤ 4000) (cz : Int32) (O : Sta Z Z.heap "java/lang/String" "COMPACT_STRINGS" "Z" (.int cz)) (hcz : ¬ cz = 0) :
    Ct l Z EL1 (⟨"java/lang/String", "<init>", "(Ljava/lang/StringBuilder;)V"⟩ : MethodName) jdk_42_method_53_code 2 (Option.none : Option Jvm.ClassFile.FieldType) ({ frames := 4, cells := 1, slots := bs.length, locals := 65 } : Room) #[.ref q, .ref s] h0 [q] nar kn (fun v h sn => v = none ∧ sn = [] ∧ ∃ u, Str Z h q u bs) := by
  refine Ct.intro (plainFor_of_name pn_java_lang_String) (ew hw) (ef_sisb q s) ?_
  intro x hl hn0 hkn hsf hh H0
  have hnar : x.nar = false := hn0.trans hnr
  have H0 : Hr x (b_sisb bs.length) Z EL1 0 0 h0 [q] 0 #[.val (.ref q), .val (.ref s)] [] := H0
  have H1 : Hr x (b_sisb bs.length) Z EL1 0 0 h0 [q] 1 #[.val (.ref q), .val (.ref s)] [.ref q] := H0.aloadN d_sisb_0
  have H2 : Hr x (b_sisb bs.length) Z EL1 0 0 h0 [q] 2 #[.val (.ref q), .val (.ref s)] [.ref s, .ref q] := H1.aloadN d_sisb_1
  have H3 : Hr x (b_sisb bs.length) Z EL1 0 0 h0 [q] 3 #[.val (.ref q), .val (.ref s)] [.null, .ref s, .ref q] := H2.aconstNull d_sisb_2
  obtain ⟨_, h1, _, ⟨rfl, rfl, u, Fs⟩, K1, H4⟩ := H3.callI (argsL := [.ref s, .null]) (rest := []) (Wr := 0) (a := q) (ct_siav hw x.l x.nar x.kn hnar h0 q s t bs r Eq Fc Fv F bb hr hcap cz O hcz) (sub1 (by simp)) (w104 hw) (w105 hw) (w2 hw) (w106 hw) d_sisb_3 pd_siav rfl (hf := by first | (simp [b_sisb, Bx.R]; done) | (simp [b_sisb, Bx.R]; omega)) (hl := by first | (simp [b_sisb, Bx.R]; done) | (simp [b_sisb, Bx.R]; omega)) (hc := by first | (simp [b_sisb, Bx.R]; done) | (simp [b_sisb, Bx.R]; omega)) (hs := by first | (simp [b_sisb, Bx.R]; done) | (simp [b_sisb, Bx.R]; omega))
  have H4 : Hr x (b_sisb bs.length) Z EL1 1 (0 + bs.length) h1 [q] 6 #[.val (.ref q), .val (.ref s)] [] := H4
  exact H4.finN d_sisb_6 rfl (by first | (simp [b_sisb, Bx.R]; done) | (simp [b_sisb, Bx.R]; omega)) (by first | (simp [b_sisb, Bx.R]; done) | (simp [b_sisb, Bx.R]; omega)) sub0 ⟨rfl, rfl, u, Fs⟩
def b_tstr (n : Nat) : Bx := (({ frames := 5, cells := 2, slots := 4 + n, locals := 79 } : Room), (⟨"java/lang/StringBuilder", "toString", "()Ljava/lang/String;"⟩ : MethodName), jdk_67_method_42_code, 1, (Option.some (Jvm.ClassFile.FieldType.object "java/lang/String")))
theorem ef_tstr (s : Addr) (mI : MethodId) : entryFrame mI #[.ref s] 1 = mkF mI 0 #[.val (.ref s)] [] := by first | (simp [entryFrame, mkF, argsToLocals, Value.category]; done) | rfl
theorem pd_tstr : parseMethodDescriptor "()Ljava/lang/String;" = some ⟨[], some (.object "java/lang/String")⟩ := by decide +kernel
set_option maxRecDepth 65536 in
set_option maxHeartbeats 4000000 in
theorem ct_tstr {a0 : Array Value} {Z : State} (hw : ∀ d ∈ tables_1, d.before a0 Z = true) (l : Launch) (nar kn : Bool) (hnr : nar = false) (h0 : Heap) (s t : Addr) (bs : List Int32) (r : Nat) (F : Sbd Z h0 s t bs r) (bb : BL bs) (hr : 0 < r) (hcap : bs.length ≤ 4000) (cz : Int32) (O : Sta Z Z.heap "java/lang/String" "COMPACT_STRINGS" "Z" (.int cz)) (hcz : ¬ cz = 0) :
    Ct l Z EL1 (⟨"java/lang/StringBuilder", "toString", "()Ljava/lang/String;"⟩ : MethodName) jdk_67_method_42_code 1 (Option.some (Jvm.ClassFile.FieldType.object "java/lang/String")) ({ frames := 5, cells := 2, slots := 4 + bs.length, locals := 79 } : Room) #[.ref s] h0 [] nar kn (fun v h sn => ∃ q u, v = some (.ref q) ∧ sn = [] ∧ Str Z h q u bs) := by
  refine Ct.intro (plainFor_of_name pn_java_lang_StringBuilder) (ew hw) (ef_tstr s) ?_
  intro x hl hn0 hkn hsf hh H0
  have hnar : x.nar = false := hn0.trans hnr
  have H0 : Hr x (b_tstr bs.length) Z EL1 0 0 h0 [] 0 #[.val (.ref s)] [] := H0
  obtain ⟨h1, E1, ⟨X1, D1, U1⟩, H1⟩ := H0.new (w100 hw) (w1 hw) (w2 hw) d_tstr_0 (by first | (simp [b_tstr, Bx.R]; done) | (simp [b_tstr, Bx.R]; omega)) (by first | (simp [b_tstr, Bx.R]; done) | (simp [b_tstr, Bx.R]; omega))
  obtain ⟨q, g_q⟩ : ∃ z, z = h0.size := ⟨_, rfl⟩
  rw [← g_q] at X1 D1 U1 H1
  have H1 : Hr x (b_tstr bs.length) Z EL1 1 4 h1 [q] 3 #[.val (.ref s)] [.ref q] := H1
  have H2 : Hr x (b_tstr bs.length) Z EL1 1 4 h1 [q] 4 #[.val (.ref s)] [.ref q, .ref q] := H1.dup d_tstr_3
  have H3 : Hr x (b_tstr bs.length) Z EL1 1 4 h1 [q] 5 #[.val (.ref s)] [.ref s, .ref q, .ref q] := H2.aloadN d_tstr_4
  have Fc : Fld Z h1 q "java/lang/String" "coder" "B" (.int 0) := D1 (Or.inr (w17 hw)) (ty := .byte) (by decide)
  have Fv : Fld Z h1 q "java/lang/String" "value" "[B" .null := D1 (Or.inr (w16 hw)) (ty := .array .byte) (by decide)
  obtain ⟨_, h2, _, ⟨rfl, rfl, u, Fs⟩, K2, H4⟩ := H3.callI (argsL := [.ref s]) (rest := [.ref q]) (Wr := 1) (a := q) (ct_sisb hw x.l x.nar x.kn hnar h1 q s t bs r X1 Fc Fv (F.ext E1) bb hr hcap cz O hcz) (sub1 (by simp)) (w101 hw) (w102 hw) (w2 hw) (w103 hw) d_tstr_5 pd_sisb rfl (hf := by first | (simp [b_tstr, Bx.R]; done) | (simp [b_tstr, Bx.R]; omega)) (hl := by first | (simp [b_tstr, Bx.R]; done) | (simp [b_tstr, Bx.R]; omega)) (hc := by first | (simp [b_tstr, Bx.R]; done) | (simp [b_tstr, Bx.R]; omega)) (hs := by first | (simp [b_tstr, Bx.R]; done) | (simp [b_tstr, Bx.R]; omega))
  have H4 : Hr x (b_tstr bs.length) Z EL1 2 (4 + bs.length) h2 [q] 8 #[.val (.ref s)] [.ref q] := H4
  exact H4.finA d_tstr_8 ⟨q, u, rfl, rfl, Fs⟩ sub0 (hK := by first | (simp [b_tstr, Bx.R]; done) | (simp [b_tstr, Bx.R]; omega)) (hS := by first | (simp [b_tstr, Bx.R]; done) | (simp [b_tstr, Bx.R]; omega))
def b_cenc : Bx := (({ frames := 0, cells := 0, slots := 0, locals := 0 } : Room), (⟨"java/lang/StringLatin1", "canEncode", "(C)Z"⟩ : MethodName), jdk_43_method_3_code, 1, (Option.some Jvm.ClassFile.FieldType.boolean))
theorem ef_cenc (c : Int32) (mI : MethodId) : entryFrame mI #[.int c] 1 = mkF mI 0 #[.val (.int c)] [] := by first | (simp [entryFrame, mkF, argsToLocals, Value.category]; done) | rfl
theorem pd_cenc : parseMethodDescriptor "(C)Z" = some ⟨[.char], some .boolean⟩ := by decide +kernel
set_option maxRecDepth 65536 in
set_option maxHeartbeats 4000000 in
theorem ct_cenc {a0 : Array Value} {Z : State} (hw : ∀ d ∈ tables_1, d.before a0 Z = true) (l : Launch) (nar kn : Bool) (hnr : nar = false) (h0 : Heap) (c : Int32) (rc : ¬ c < 0 ∧ ¬ 255 < c) :
    Ct l Z EL1 (⟨"java/lang/StringLatin1", "canEncode", "(C)Z"⟩ : MethodName) jdk_43_method_3_code 1 (Option.some Jvm.ClassFile.FieldType.boolean) ({ frames := 0, cells := 0, slots := 0, locals := 0 } : Room) #[.int c] h0 [] nar kn (fun v h sn => v = some (.int 1) ∧ sn = [] ∧ h = h0) := by
  refine Ct.intro (plainFor_of_name pn_java_lang_StringLatin1) (ew hw) (ef_cenc c) ?_
  intro x hl hn0 hkn hsf hh H0
  have hnar : x.nar = false := hn0.trans hnr
  have H0 : Hr x b_cenc Z EL1 0 0 h0 [] 0 #[.val (.int c)] [] := H0
  have H1 : Hr x b_cenc Z EL1 0 0 h0 [] 1 #[.val (.int c)] [.int c] := H0.iloadN d_cenc_0
  have H2 : Hr x b_cenc Z EL1 0 0 h0 [] 4 #[.val (.int c)] [.int (255 : Int32), .int c] := H1.sipush d_cenc_1
  have H3 : Hr x b_cenc Z EL1 0 0 h0 [] 7 #[.val (.int c)] [] := H2.icmpF d_cenc_4 (XT.ii_gt_f rc.2)
  have H4 : Hr x b_cenc Z EL1 0 0 h0 [] 8 #[.val (.int c)] [.int (1 : Int32)] := H3.iconst d_cenc_7
  have H5 : Hr x b_cenc Z EL1 0 0 h0 [] 12 #[.val (.int c)] [.int (1 : Int32)] := H4.goto d_cenc_8
  exact H5.finZ d_cenc_12 (t := .boolean) (by first | rfl | decide) ⟨rfl, rfl, rfl⟩ sub0
def b_tob : Bx := (({ frames := 0, cells := 1, slots := 1, locals := 0 } : Room), (⟨"java/lang/StringLatin1", "toBytes", "(C)[B"⟩ : MethodName), jdk_43_method_46_code, 1, (Option.some (Jvm.ClassFile.FieldType.array Jvm.ClassFile.FieldType.byte)))
theorem ef_tob (c : Int32) (mI : MethodId) : entryFrame mI #[.int c] 1 = mkF mI 0 #[.val (.int c)] [] := by first | (simp [entryFrame, mkF, argsToLocals, Value.category]; done) | rfl
theorem pd_tob : parseMethodDescriptor "(C)[B" = some ⟨[.char], some (.array .byte)⟩ := by decide +kernel
set_option maxRecDepth 65536 in
set_option maxHeartbeats 4000000 in
theorem ct_tob {a0 : Array Value} {Z : State} (hw : ∀ d ∈ tables_1, d.before a0 Z = true) (l : Launch) (nar kn : Bool) (hnr : nar = false) (h0 : Heap) (c : Int32) :
    Ct l Z EL1 (⟨"java/lang/StringLatin1", "toBytes", "(C)[B"⟩ : MethodName) jdk_43_method_46_code 1 (Option.some (Jvm.ClassFile.FieldType.array Jvm.ClassFile.FieldType.byte)) ({ frames := 0, cells := 1, slots := 1, locals := 0 } : Room) #[.int c] h0 [] nar kn (fun v h sn => ∃ t, v = some (.ref t) ∧ h0.size ≤ t ∧ sn = [t] ∧ Ar Z h t .byte ([b8 c].map Value.int)) := by
  refine Ct.intro (plainFor_of_name pn_java_lang_StringLatin1) (ew hw) (ef_tob c) ?_
  intro x hl hn0 hkn hsf hh H0
  have hnar : x.nar = false := hn0.trans hnr
  have H0 : Hr x b_tob Z EL1 0 0 h0 [] 0 #[.val (.int c)] [] := H0
  have H1 : Hr x b_tob Z EL1 0 0 h0 [] 1 #[.val (.int c)] [.int (1 : Int32)] := H0.iconst d_tob_0
  obtain ⟨h1, E1, F1, H2⟩ := H1.newarray (aty := .byte) (cap := 1) (w15 hw) d_tob_1 (by decide) (by decide) (by decide) (by first | decide | (simp [b_tob, Bx.R]; done) | (simp [b_tob, Bx.R]; omega)) (by first | decide | (simp [b_tob, Bx.R]; done) | (simp [b_tob, Bx.R]; omega))
  obtain ⟨d, g_d⟩ : ∃ z, z = h0.size := ⟨_, rfl⟩
  rw [← g_d] at F1 H2
  have F1 : Ar Z h1 d .byte (List.replicate 1 (.int 0)) := F1
  have H2 : Hr x b_tob Z EL1 1 1 h1 [d] 3 #[.val (.int c)] [.ref d] := H2
  have H3 : Hr x b_tob Z EL1 1 1 h1 [d] 4 #[.val (.int c)] [.ref d, .ref d] := H2.dup d_tob_3
  have H4 : Hr x b_tob Z EL1 1 1 h1 [d] 5 #[.val (.int c)] [.int (0 : Int32), .ref d, .ref d] := H3.iconst d_tob_4
  have H5 : Hr x b_tob Z EL1 1 1 h1 [d] 6 #[.val (.int c)] [.int c, .int (0 : Int32), .ref d, .ref d] := H4.iloadN d_tob_5
  have H6 : Hr x b_tob Z EL1 1 1 h1 [d] 7 #[.val (.int c)] [.int (b8 c), .int (0 : Int32), .ref d, .ref d] := H5.i2b d_tob_6
  obtain ⟨h2, W2, H7⟩ := H6.bastore (by simp) F1 d_tob_7 (i := 0) rfl (by simp) (hw := (b8_b8 _))
  have H7 : Hr x b_tob Z EL1 1 1 h2 [d] 8 #[.val (.int c)] [.ref d] := H7
  have F2 : Ar Z h2 d .byte ([b8 c].map Value.int) := F1.set W2
  exact H7.finA d_tob_8 ⟨d, rfl, by omega, rfl, F2⟩ (sub1 (by simp))
def b_sinib : Bx := (({ frames := 1, cells := 0, slots := 0, locals := 12 } : Room), (⟨"java/lang/String", "<init>", "([BB)V"⟩ : MethodName), jdk_42_method_151_code, 3, (Option.none : Option Jvm.ClassFile.FieldType))
theorem ef_sinib (s t : Addr) (mI : MethodId) : entryFrame mI #[.ref s, .ref t, .int (0 : Int32)] 3 = mkF mI 0 #[.val (.ref s), .val (.ref t), .val (.int (0 : Int32))] [] := by first | (simp [entryFrame, mkF, argsToLocals, Value.category]; done) | rfl
theorem pd_sinib : parseMethodDescriptor "([BB)V" = some ⟨[(.array .byte), .byte], none⟩ := by decide +kernel
set_option maxRecDepth 65536 in
set_option maxHeartbeats 4000000 in
theorem ct_sinib {a0 : Array Value} {Z : State} (hw : ∀ d ∈ tables_1, d.before a0 Z = true) (l : Launch) (nar kn : Bool) (hnr : nar = false) (h0 : Heap) (s t : Addr) (bs : List Int32) (Es : Exa Z h0 s "java/lang/String") (Fc : Fld Z h0 s "java/lang/String" "coder" "B" (.int 0)) (Fv : Fld Z h0 s "java/lang/String" "value" "[B" .null) (Ft : Ar Z h0 t .byte (bs.map Value.int)) (hst : t ≠ s) :
    Ct l Z EL1 (⟨"java/lang/String", "<init>", "([BB)V"⟩ : MethodName) jdk_42_method_151_code 3 (Option.none : Option Jvm.ClassFile.FieldType) ({ frames := 1, cells := 0, slots := 0, locals := 12 } : Room) #[.ref s, .ref t, .int (0 : Int32)] h0 [s] nar kn (fun v h sn => v = none ∧ sn = [] ∧ Str Z h s t bs) := by
  refine Ct.intro (plainFor_of_name pn_java_lang_String) (ew hw) (ef_sinib s t) ?_
  intro x hl hn0 hkn hsf hh H0
  have hnar : x.nar = false := hn0.trans hnr
  have H0 : Hr x b_sinib Z EL1 0 0 h0 [s] 0 #[.val (.ref s), .val (.ref t), .val (.int (0 : Int32))] [] := H0
  have H1 : Hr x b_sinib Z EL1 0 0 h0 [s] 1 #[.val (.ref s), .val (.ref t), .val (.int (0 : Int32))] [.ref s] := H0.aloadN d_sinib_0
  have H2 : Hr x b_sinib Z EL1 0 0 h0 [s] 4 #[.val (.ref s), .val (.ref t), .val (.int (0 : Int32))] [] := H1.initO (Wr := 0) (w11 hw) (w12 hw) (w13 hw) d_sinib_1 (hf := by first | decide | (simp [b_sinib, Bx.R]; done) | (simp [b_sinib, Bx.R]; omega)) (hl := by first | decide | (simp [b_sinib, Bx.R]; done) | (simp [b_sinib, Bx.R]; omega))
  have H3 : Hr x b_sinib Z EL1 0 0 h0 [s] 5 #[.val (.ref s), .val (.ref t), .val (.int (0 : Int32))] [.ref s] := H2.aloadN d_sinib_4
  have H4 : Hr x b_sinib Z EL1 0 0 h0 [s] 6 #[.val (.ref s), .val (.ref t), .val (.int (0 : Int32))] [.ref t, .ref s] := H3.aloadN d_sinib_5
  have slne := slot_ne (a0 := a0) (C := "java/lang/String") (n := "value") (n' := "coder") (Or.inr (w16 hw)) (Or.inr (w17 hw)) (by decide) (t := .array .byte) (t' := .byte) (by decide) (by decide)
  obtain ⟨h1, W1, H5⟩ := H4.putF (by simp) (w20 hw) Fv Es (Or.inr ⟨(w16 hw), rfl, rfl⟩) (w1 hw) d_sinib_6 (ty := (.array .byte))
  have H5 : Hr x b_sinib Z EL1 0 0 h1 [s] 9 #[.val (.ref s), .val (.ref t), .val (.int (0 : Int32))] [] := H5
  have H6 : Hr x b_sinib Z EL1 0 0 h1 [s] 10 #[.val (.ref s), .val (.ref t), .val (.int (0 : Int32))] [.ref s] := H5.aloadN d_sinib_9
  have H7 : Hr x b_sinib Z EL1 0 0 h1 [s] 11 #[.val (.ref s), .val (.ref t), .val (.int (0 : Int32))] [.int (0 : Int32), .ref s] := H6.iloadN d_sinib_10
  obtain ⟨h2, W2, H8⟩ := H7.putF (by simp) (w21 hw) (Fc.other W1 (Or.inr (Ne.symm slne))) (Es.wr W1) (Or.inr ⟨(w17 hw), rfl, rfl⟩) (w1 hw) d_sinib_11 (ty := .byte)
  have H8 : Hr x b_sinib Z EL1 0 0 h2 [s] 14 #[.val (.ref s), .val (.ref t), .val (.int (0 : Int32))] [] := H8
  exact H8.finN d_sinib_14 rfl (by decide) (by decide) sub0 ⟨rfl, rfl, (Es.wr W1).wr W2, Fld.same W2 (Fc.other W1 (Or.inr (Ne.symm slne))), (Fld.same W1 Fv).other W2 (Or.inr slne), (Ft.other W1 hst).other W2 hst⟩
def b_vof : Bx := (({ frames := 2, cells := 2, slots := 5, locals := 28 } : Room), (⟨"java/lang/String", "valueOf", "(C)Ljava/lang/String;"⟩ : MethodName), jdk_42_method_139_code, 1, (Option.some (Jvm.ClassFile.FieldType.object "java/lang/String")))
theorem ef_vof (c : Int32) (mI : MethodId) : entryFrame mI #[.int c] 1 = mkF mI 0 #[.val (.int c)] [] := by first | (simp [entryFrame, mkF, argsToLocals, Value.category]; done) | rfl
theorem pd_vof : parseMethodDescriptor "(C)Ljava/lang/String;" = some ⟨[.char], some (.object "java/lang/String")⟩ := by decide +kernel
set_option maxRecDepth 65536 in
set_option maxHeartbeats 4000000 in
theorem ct_vof {a0 : Array Value} {Z : State} (hw : ∀ d ∈ tables_1, d.before a0 Z = true) (l : Launch) (nar kn : Bool) (hnr : nar = false) (h0 : Heap) (c : Int32) (rc : ¬ c < 0 ∧ ¬ 255 < c) (cz : Int32) (O : Sta Z Z.heap "java/lang/String" "COMPACT_STRINGS" "Z" (.int cz)) (hcz : ¬ cz = 0) :
    Ct l Z EL1 (⟨"java/lang/String", "valueOf", "(C)Ljava/lang/String;"⟩ : MethodName) jdk_42_method_139_code 1 (Option.some (Jvm.ClassFile.FieldType.object "java/lang/String")) ({ frames := 2, cells := 2, slots := 5, locals := 28 } : Room) #[.int c] h0 [] nar kn (fun v h sn => ∃ a t, v = some (.ref a) ∧ sn = [] ∧ Str Z h a t [b8 c]) := by
  refine Ct.intro (plainFor_of_name pn_java_lang_String) (ew hw) (ef_vof c) ?_
  intro x hl hn0 hkn hsf hh H0
  have hnar : x.nar = false := hn0.trans hnr
  have H0 : Hr x b_vof Z EL1 0 0 h0 [] 0 #[.val (.int c)] [] := H0
  have H1 : Hr x b_vof Z EL1 0 0 h0 [] 3 #[.val (.int c)] [.int cz] := H0.getS (w67 hw) (O.ext H0.old) d_vof_0
  have H2 : Hr x b_vof Z EL1 0 0 h0 [] 6 #[.val (.int c)] [] := H1.ifF d_vof_3 (XT.i0_eq_f hcz)
  have H3 : Hr x b_vof Z EL1 0 0 h0 [] 7 #[.val (.int c)] [.int c] := H2.iloadN d_vof_6
  obtain ⟨_, h1, _, ⟨rfl, rfl, e1⟩, K1, H4⟩ := H3.callS (argsL := [.int c]) (rest := []) (Wr := 0) (ct_cenc hw x.l x.nar x.kn hnar h0 c rc) sub0 (w254 hw) (w255 hw) (w214 hw) (w256 hw) d_vof_7 pd_cenc rfl (hf := by first | decide | (simp [b_vof, Bx.R]; done) | (simp [b_vof, Bx.R]; omega)) (hl := by first | decide | (simp [b_vof, Bx.R]; done) | (simp [b_vof, Bx.R]; omega)) (hc := by first | decide | (simp [b_vof, Bx.R]; done) | (simp [b_vof, Bx.R]; omega)) (hs := by first | decide | (simp [b_vof, Bx.R]; done) | (simp [b_vof, Bx.R]; omega))
  rw [e1] at H4
  have H4 : Hr x b_vof Z EL1 0 0 h0 [] 10 #[.val (.int c)] [.int (1 : Int32)] := H4
  have H5 : Hr x b_vof Z EL1 0 0 h0 [] 13 #[.val (.int c)] [] := H4.ifF d_vof_10 (XT.i0_eq_f (by decide))
  obtain ⟨h2, E2, ⟨X2, D2, U2⟩, H6⟩ := H5.new (w257 hw) (w1 hw) (w2 hw) d_vof_13 (by first | decide | (simp [b_vof, Bx.R]; done) | (simp [b_vof, Bx.R]; omega)) (by first | decide | (simp [b_vof, Bx.R]; done) | (simp [b_vof, Bx.R]; omega))
  obtain ⟨s, g_s⟩ : ∃ z, z = h0.size := ⟨_, rfl⟩
  rw [← g_s] at X2 D2 U2 H6
  have H6 : Hr x b_vof Z EL1 1 4 h2 [s] 16 #[.val (.int c)] [.ref s] := H6
  have H7 : Hr x b_vof Z EL1 1 4 h2 [s] 17 #[.val (.int c)] [.ref s, .ref s] := H6.dup d_vof_16
  have H8 : Hr x b_vof Z EL1 1 4 h2 [s] 18 #[.val (.int c)] [.int c, .ref s, .ref s] := H7.iloadN d_vof_17
  have Fcs : Fld Z h2 s "java/lang/String" "coder" "B" (.int 0) := D2 (Or.inr (w17 hw)) (ty := .byte) (by decide)
  have Fvs : Fld Z h2 s "java/lang/String" "value" "[B" .null := D2 (Or.inr (w16 hw)) (ty := .array .byte) (by decide)
  obtain ⟨_, h3, _, ⟨t, rfl, ht, rfl, Ft⟩, K3, H9⟩ := H8.callS (argsL := [.int c]) (rest := [.ref s, .ref s]) (Wr := 2) (ct_tob hw x.l x.nar x.kn hnar h2 c) sub0 (w258 hw) (w259 hw) (w214 hw) (w260 hw) d_vof_18 pd_tob rfl (hf := by first | decide | (simp [b_vof, Bx.R]; done) | (simp [b_vof, Bx.R]; omega)) (hl := by first | decide | (simp [b_vof, Bx.R]; done) | (simp [b_vof, Bx.R]; omega)) (hc := by first | decide | (simp [b_vof, Bx.R]; done) | (simp [b_vof, Bx.R]; omega)) (hs := by first | decide | (simp [b_vof, Bx.R]; done) | (simp [b_vof, Bx.R]; omega))
  have H9 : Hr x b_vof Z EL1 2 5 h3 [t, s] 21 #[.val (.int c)] [.ref t, .ref s, .ref s] := H9
  have H10 : Hr x b_vof Z EL1 2 5 h3 [t, s] 22 #[.val (.int c)] [.int (0 : Int32), .ref t, .ref s, .ref s] := H9.iconst d_vof_21
  obtain ⟨_, h4, _, ⟨rfl, rfl, Fs⟩, K4, H11⟩ := H10.callI (argsL := [.ref t, .int (0 : Int32)]) (rest := [.ref s]) (Wr := 1) (a := s) (ct_sinib hw x.l x.nar x.kn hnar h3 s t _ (X2.keep K3) (Fcs.keep K3 nin0) (Fvs.keep K3 nin0) Ft (neN (by have := exa_lt X2; omega))) (sub1 (by simp)) (w261 hw) (w262 hw) (w2 hw) (w263 hw) d_vof_22 pd_sinib rfl (hf := by first | decide | (simp [b_vof, Bx.R]; done) | (simp [b_vof, Bx.R]; omega)) (hl := by first | decide | (simp [b_vof, Bx.R]; done) | (simp [b_vof, Bx.R]; omega)) (hc := by first | decide | (simp [b_vof, Bx.R]; done) | (simp [b_vof, Bx.R]; omega)) (hs := by first | decide | (simp [b_vof, Bx.R]; done) | (simp [b_vof, Bx.R]; omega))
  have H11 : Hr x b_vof Z EL1 2 5 h4 [t, s] 25 #[.val (.int c)] [.ref s] := H11
  exact H11.finA d_vof_25 ⟨s, t, rfl, rfl, Fs⟩ sub0
def b_mmax : Bx := (({ frames := 0, cells := 0, slots := 0, locals := 0 } : Room), (⟨"java/lang/Math", "max", "(II)I"⟩ : MethodName), jdk_29_method_65_code, 2, (Option.some Jvm.ClassFile.FieldType.int))
theorem ef_mmax (j : Int32) (mI : MethodId) : entryFrame mI #[.int j, .int (18 : Int32)] 2 = mkF mI 0 #[.val (.int j), .val (.int (18 : Int32))] [] := by first | (simp [entryFrame, mkF, argsToLocals, Value.category]; done) | rfl
theorem pf_mmax : plainFor (⟨"java/lang/Math", "max", "(II)I"⟩ : MethodName) = true := by decide +kernel
theorem pd_mmax : parseMethodDescriptor "(II)I" = some ⟨[.int, .int], some .int⟩ := by decide +kernel
set_option maxRecDepth 65536 in
set_option maxHeartbeats 4000000 in
theorem ct_mmax {a0 : Array Value} {Z : State} (hw : ∀ d ∈ tables_1, d.before a0 Z = true) (l : Launch) (nar kn : Bool) (hnr : nar = false) (h0 : Heap) (j : Int32) (hj : j < 18) :
    Ct l Z EL1 (⟨"java/lang/Math", "max", "(II)I"⟩ : MethodName) jdk_29_method_65_code 2 (Option.some Jvm.ClassFile.FieldType.int) ({ frames := 0, cells := 0, slots := 0, locals := 0 } : Room) #[.int j, .int (18 : Int32)] h0 [] nar kn (fun v h sn => v = some (.int 18) ∧ sn = [] ∧ h = h0) := by
  refine Ct.intro pf_mmax (ew hw) (ef_mmax j) ?_
  intro x hl hn0 hkn hsf hh H0
  have hnar : x.nar = false := hn0.trans hnr
  have H0 : Hr x b_mmax Z EL1 0 0 h0 [] 0 #[.val (.int j), .val (.int (18 : Int32))] [] := H0
  have H1 : Hr x b_mmax Z EL1 0 0 h0 [] 1 #[.val (.int j), .val (.int (18 : Int32))] [.int j] := H0.iloadN d_mmax_0
  have H2 : Hr x b_mmax Z EL1 0 0 h0 [] 2 #[.val (.int j), .val (.int (18 : Int32))] [.int (18 : Int32), .int j] := H1.iloadN d_mmax_1
  have H3 : Hr x b_mmax Z EL1 0 0 h0 [] 9 #[.val (.int j), .val (.int (18 : Int32))] [] := H2.icmpT d_mmax_2 (XT.ii_lt_t hj)
  have H4 : Hr x b_mmax Z EL1 0 0 h0 [] 10 #[.val (.int j), .val (.int (18 : Int32))] [.int (18 : Int32)] := H3.iloadN d_mmax_9
  exact H4.finI d_mmax_10 ⟨rfl, rfl, rfl⟩ sub0
def b_nlen : Bx := (({ frames := 1, cells := 0, slots := 0, locals := 14 } : Room), (⟨"jdk/internal/util/ArraysSupport", "newLength", "(III)I"⟩ : MethodName), jdk_48_method_27_code, 4, (Option.some Jvm.ClassFile.FieldType.int))
theorem ef_nlen (j : Int32) (mI : MethodId) : entryFrame mI #[.int (16 : Int32), .int j, .int (18 : Int32)] 4 = mkF mI 0 #[.val (.int (16 : Int32)), .val (.int j), .val (.int (18 : Int32)), .unset] [] := by first | (simp [entryFrame, mkF, argsToLocals, Value.category]; done) | rfl
theorem pn_jdk_internal_util_ArraysSupport : plainName "jdk/internal/util/ArraysSupport" = true := by first | (simp [plainName, overriddenIn]; done) | decide +kernel
theorem pd_nlen : parseMethodDescriptor "(III)I" = some ⟨[.int, .int, .int], some .int⟩ := by decide +kernel
set_option maxRecDepth 65536 in
set_option maxHeartbeats 4000000 in
theorem ct_nlen {a0 : Array Value} {Z : State} (hw : ∀ d ∈ tables_1, d.before a0 Z = true) (l : Launch) (nar kn : Bool) (hnr : nar = false) (h0 : Heap) (j : Int32) (hj : j < 18) :
    Ct l Z EL1 (⟨"jdk/internal/util/ArraysSupport", "newLength", "(III)I"⟩ : MethodName) jdk_48_method_27_code 4 (Option.some Jvm.ClassFile.FieldType.int) ({ frames := 1, cells := 0, slots := 0, locals := 14 } : Room) #[.int (16 : Int32), .int j, .int (18 : Int32)] h0 [] nar kn (fun v h sn => v = some (.int 34) ∧ sn = [] ∧ h = h0) := by
  refine Ct.intro (plainFor_of_name pn_jdk_internal_util_ArraysSupport) (ew hw) (ef_nlen j) ?_
  intro x hl hn0 hkn hsf hh H0
  have hnar : x.nar = false := hn0.trans hnr
  have H0 : Hr x b_nlen Z EL1 0 0 h0 [] 0 #[.val (.int (16 : Int32)), .val (.int j), .val (.int (18 : Int32)), .unset] [] := H0
  have H1 : Hr x b_nlen Z EL1 0 0 h0 [] 1 #[.val (.int (16 : Int32)), .val (.int j), .val (.int (18 : Int32)), .unset] [.int (16 : Int32)] := H0.iloadN d_nlen_0
  have H2 : Hr x b_nlen Z EL1 0 0 h0 [] 2 #[.val (.int (16 : Int32)), .val (.int j), .val (.int (18 : Int32)), .unset] [.int j, .int (16 : Int32)] := H1.iloadN d_nlen_1
  have H3 : Hr x b_nlen Z EL1 0 0 h0 [] 3 #[.val (.int (16 : Int32)), .val (.int j), .val (.int (18 : Int32)), .unset] [.int (18 : Int32), .int j, .int (16 : Int32)] := H2.iloadN d_nlen_2
  obtain ⟨_, h1, _, ⟨rfl, rfl, e1⟩, K1, H4⟩ := H3.callS (argsL := [.int j, .int (18 : Int32)]) (rest := [.int (16 : Int32)]) (Wr := 1) (ct_mmax hw x.l x.nar x.kn hnar h0 j hj) sub0 (w243 hw) (w244 hw) (w137 hw) (w245 hw) d_nlen_3 pd_mmax rfl (hf := by first | decide | (simp [b_nlen, Bx.R]; done) | (simp [b_nlen, Bx.R]; omega)) (hl := by first | decide | (simp [b_nlen, Bx.R]; done) | (simp [b_nlen, Bx.R]; omega)) (hc := by first | decide | (simp [b_nlen, Bx.R]; done) | (simp [b_nlen, Bx.R]; omega)) (hs := by first | decide | (simp [b_nlen, Bx.R]; done) | (simp [b_nlen, Bx.R]; omega))
  rw [e1] at H4
  have H4 : Hr x b_nlen Z EL1 0 0 h0 [] 6 #[.val (.int (16 : Int32)), .val (.int j), .val (.int (18 : Int32)), .unset] [.int (18 : Int32), .int (16 : Int32)] := H4
  have H5 : Hr x b_nlen Z EL1 0 0 h0 [] 7 #[.val (.int (16 : Int32)), .val (.int j), .val (.int (18 : Int32)), .unset] [.int (34 : Int32)] := H4.iadd d_nlen_6 (hv := (by decide))
  have H6 : Hr x b_nlen Z EL1 0 0 h0 [] 8 #[.val (.int (16 : Int32)), .val (.int j), .val (.int (18 : Int32)), .val (.int (34 : Int32))] [] := H5.istoreN d_nlen_7
  have H7 : Hr x b_nlen Z EL1 0 0 h0 [] 9 #[.val (.int (16 : Int32)), .val (.int j), .val (.int (18 : Int32)), .val (.int (34 : Int32))] [.int (0 : Int32)] := H6.iconst d_nlen_8
  have H8 : Hr x b_nlen Z EL1 0 0 h0 [] 10 #[.val (.int (16 : Int32)), .val (.int j), .val (.int (18 : Int32)), .val (.int (34 : Int32))] [.int (34 : Int32), .int (0 : Int32)] := H7.iloadN d_nlen_9
  have H9 : Hr x b_nlen Z EL1 0 0 h0 [] 13 #[.val (.int (16 : Int32)), .val (.int j), .val (.int (18 : Int32)), .val (.int (34 : Int32))] [] := H8.icmpF d_nlen_10 (XT.ii_ge_f (by decide))
  have H10 : Hr x b_nlen Z EL1 0 0 h0 [] 14 #[.val (.int (16 : Int32)), .val (.int j), .val (.int (18 : Int32)), .val (.int (34 : Int32))] [.int (34 : Int32)] := H9.iloadN d_nlen_13
  have H11 : Hr x b_nlen Z EL1 0 0 h0 [] 16 #[.val (.int (16 : Int32)), .val (.int j), .val (.int (18 : Int32)), .val (.int (34 : Int32))] [.int (2147483639 : Int32), .int (34 : Int32)] := H10.ldcI (w246 hw) d_nlen_14
  have H12 : Hr x b_nlen Z EL1 0 0 h0 [] 19 #[.val (.int (16 : Int32)), .val (.int j), .val (.int (18 : Int32)), .val (.int (34 : Int32))] [] := H11.icmpF d_nlen_16 (XT.ii_gt_f (by decide))
  have H13 : Hr x b_nlen Z EL1 0 0 h0 [] 20 #[.val (.int (16 : Int32)), .val (.int j), .val (.int (18 : Int32)), .val (.int (34 : Int32))] [.int (34 : Int32)] := H12.iloadN d_nlen_19
  exact H13.finI d_nlen_20 ⟨rfl, rfl, rfl⟩ sub0
def b_ncap : Bx := (({ frames := 2, cells := 0, slots := 0, locals := 29 } : Room), (⟨"java/lang/AbstractStringBuilder", "newCapacity", "(I)I"⟩ : MethodName), jdk_68_method_10_code, 6, (Option.some Jvm.ClassFile.FieldType.int))
theorem ef_ncap (s : Addr) (m : Int32) (mI : MethodId) : entryFrame mI #[.ref s, .int m] 6 = mkF mI 0 #[.val (.ref s), .val (.int m), .unset, .unset, .unset, .unset] [] := by first | (simp [entryFrame, mkF, argsToLocals, Value.category]; done) | rfl
theorem pd_ncap : parseMethodDescriptor "(I)I" = some ⟨[.int], some .int⟩ := by decide +kernel
set_option maxRecDepth 65536 in
set_option maxHeartbeats 4000000 in
theorem ct_ncap {a0 : Array Value} {Z : State} (hw : ∀ d ∈ tables_1, d.before a0 Z = true) (l : Launch) (nar kn : Bool) (hnr : nar = false) (h0 : Heap) (s t : Addr) (m : Int32) (hm : m = 17 ∨ m = 18) (bs : List Int32) (r : Nat) (F : Sbd Z h0 s t bs r) (e16 : bs.length + r = 16) :
    Ct l Z EL1 (⟨"java/lang/AbstractStringBuilder", "newCapacity", "(I)I"⟩ : MethodName) jdk_68_method_10_code 6 (Option.some Jvm.ClassFile.FieldType.int) ({ frames := 2, cells := 0, slots := 0, locals := 29 } : Room) #[.ref s, .int m] h0 [] nar kn (fun v h sn => v = some (.int 34) ∧ sn = [] ∧ h = h0) := by
  refine Ct.intro (plainFor_of_name pn_java_lang_AbstractStringBuilder) (ew hw) (ef_ncap s m) ?_
  intro x hl hn0 hkn hsf hh H0
  have hnar : x.nar = false := hn0.trans hnr
  have H0 : Hr x b_ncap Z EL1 0 0 h0 [] 0 #[.val (.ref s), .val (.int m), .unset, .unset, .unset, .unset] [] := H0
  have hj : m - 16 < 18 := by rcases hm with rfl | rfl <;> decide
  have H1 : Hr x b_ncap Z EL1 0 0 h0 [] 1 #[.val (.ref s), .val (.int m), .unset, .unset, .unset, .unset] [.ref s] := H0.aloadN d_ncap_0
  have H2 : Hr x b_ncap Z EL1 0 0 h0 [] 4 #[.val (.ref s), .val (.int m), .unset, .unset, .unset, .unset] [.ref t] := H1.getF (w42 hw) F.2.1 d_ncap_1
  have H3 : Hr x b_ncap Z EL1 0 0 h0 [] 5 #[.val (.ref s), .val (.int m), .unset, .unset, .unset, .unset] [.int (16 : Int32)] := H2.arraylength F.2.2.2.2 d_ncap_4 (hn := (by rw [len16 e16]; rfl))
  have H4 : Hr x b_ncap Z EL1 0 0 h0 [] 6 #[.val (.ref s), .val (.int m), .val (.int (16 : Int32)), .unset, .unset, .unset] [] := H3.istoreN d_ncap_5
  have H5 : Hr x b_ncap Z EL1 0 0 h0 [] 7 #[.val (.ref s), .val (.int m), .val (.int (16 : Int32)), .unset, .unset, .unset] [.int m] := H4.iloadN d_ncap_6
  have H6 : Hr x b_ncap Z EL1 0 0 h0 [] 8 #[.val (.ref s), .val (.int m), .val (.int (16 : Int32)), .unset, .unset, .unset] [.ref s, .int m] := H5.aloadN d_ncap_7
  have H7 : Hr x b_ncap Z EL1 0 0 h0 [] 11 #[.val (.ref s), .val (.int m), .val (.int (16 : Int32)), .unset, .unset, .unset] [.int (0 : Int32), .int m] := H6.getF (w44 hw) F.2.2.1 d_ncap_8
  have H8 : Hr x b_ncap Z EL1 0 0 h0 [] 12 #[.val (.ref s), .val (.int m), .val (.int (16 : Int32)), .unset, .unset, .unset] [.int m] := H7.ishl d_ncap_11 (hv := (shl0 _))
  have H9 : Hr x b_ncap Z EL1 0 0 h0 [] 13 #[.val (.ref s), .val (.int m), .val (.int (16 : Int32)), .val (.int m), .unset, .unset] [] := H8.istoreN d_ncap_12
  have H10 : Hr x b_ncap Z EL1 0 0 h0 [] 14 #[.val (.ref s), .val (.int m), .val (.int (16 : Int32)), .val (.int m), .unset, .unset] [.int m] := H9.iloadN d_ncap_13
  have H11 : Hr x b_ncap Z EL1 0 0 h0 [] 15 #[.val (.ref s), .val (.int m), .val (.int (16 : Int32)), .val (.int m), .unset, .unset] [.int (16 : Int32), .int m] := H10.iloadN d_ncap_14
  have H12 : Hr x b_ncap Z EL1 0 0 h0 [] 16 #[.val (.ref s), .val (.int m), .val (.int (16 : Int32)), .val (.int m), .unset, .unset] [.int (m - (16 : Int32))] := H11.isub d_ncap_15
  have H13 : Hr x b_ncap Z EL1 0 0 h0 [] 18 #[.val (.ref s), .val (.int m), .val (.int (16 : Int32)), .val (.int m), .val (.int (m - (16 : Int32))), .unset] [] := H12.istore d_ncap_16
  have H14 : Hr x b_ncap Z EL1 0 0 h0 [] 19 #[.val (.ref s), .val (.int m), .val (.int (16 : Int32)), .val (.int m), .val (.int (m - (16 : Int32))), .unset] [.int (16 : Int32)] := H13.iloadN d_ncap_18
  have H15 : Hr x b_ncap Z EL1 0 0 h0 [] 21 #[.val (.ref s), .val (.int m), .val (.int (16 : Int32)), .val (.int m), .val (.int (m - (16 : Int32))), .unset] [.int (m - (16 : Int32)), .int (16 : Int32)] := H14.iload d_ncap_19
  have H16 : Hr x b_ncap Z EL1 0 0 h0 [] 22 #[.val (.ref s), .val (.int m), .val (.int (16 : Int32)), .val (.int m), .val (.int (m - (16 : Int32))), .unset] [.int (16 : Int32), .int (m - (16 : Int32)), .int (16 : Int32)] := H15.iloadN d_ncap_21
  have H17 : Hr x b_ncap Z EL1 0 0 h0 [] 23 #[.val (.ref s), .val (.int m), .val (.int (16 : Int32)), .val (.int m), .val (.int (m - (16 : Int32))), .unset] [.int (2 : Int32), .int (16 : Int32), .int (m - (16 : Int32)), .int (16 : Int32)] := H16.iconst d_ncap_22
  have H18 : Hr x b_ncap Z EL1 0 0 h0 [] 24 #[.val (.ref s), .val (.int m), .val (.int (16 : Int32)), .val (.int m), .val (.int (m - (16 : Int32))), .unset] [.ref s, .int (2 : Int32), .int (16 : Int32), .int (m - (16 : Int32)), .int (16 : Int32)] := H17.aloadN d_ncap_23
  have H19 : Hr x b_ncap Z EL1 0 0 h0 [] 27 #[.val (.ref s), .val (.int m), .val (.int (16 : Int32)), .val (.int m), .val (.int (m - (16 : Int32))), .unset] [.int (0 : Int32), .int (2 : Int32), .int (16 : Int32), .int (m - (16 : Int32)), .int (16 : Int32)] := H18.getF (w44 hw) F.2.2.1 d_ncap_24
  have H20 : Hr x b_ncap Z EL1 0 0 h0 [] 28 #[.val (.ref s), .val (.int m), .val (.int (16 : Int32)), .val (.int m), .val (.int (m - (16 : Int32))), .unset] [.int (2 : Int32), .int (16 : Int32), .int (m - (16 : Int32)), .int (16 : Int32)] := H19.ishl d_ncap_27 (hv := (by decide))
  have H21 : Hr x b_ncap Z EL1 0 0 h0 [] 29 #[.val (.ref s), .val (.int m), .val (.int (16 : Int32)), .val (.int m), .val (.int (m - (16 : Int32))), .unset] [.int (18 : Int32), .int (m - (16 : Int32)), .int (16 : Int32)] := H20.iadd d_ncap_28 (hv := (by decide))
  obtain ⟨_, h1, _, ⟨rfl, rfl, e1⟩, K1, H22⟩ := H21.callS (argsL := [.int (16 : Int32), .int (m - (16 : Int32)), .int (18 : Int32)]) (rest := []) (Wr := 0) (ct_nlen hw x.l x.nar x.kn hnar h0 (m - 16) hj) sub0 (w239 hw) (w240 hw) (w241 hw) (w242 hw) d_ncap_29 pd_nlen rfl (hf := by first | decide | (simp [b_ncap, Bx.R]; done) | (simp [b_ncap, Bx.R]; omega)) (hl := by first | decide | (simp [b_ncap, Bx.R]; done) | (simp [b_ncap, Bx.R]; omega)) (hc := by first | decide | (simp [b_ncap, Bx.R]; done) | (simp [b_ncap, Bx.R]; omega)) (hs := by first | decide | (simp [b_ncap, Bx.R]; done) | (simp [b_ncap, Bx.R]; omega))
  rw [e1] at H22
  have H22 : Hr x b_ncap Z EL1 0 0 h0 [] 32 #[.val (.ref s), .val (.int m), .val (.int (16 : Int32)), .val (.int m), .val (.int (m - (16 : Int32))), .unset] [.int (34 : Int32)] := H22
  have H23 : Hr x b_ncap Z EL1 0 0 h0 [] 34 #[.val (.ref s), .val (.int m), .val (.int (16 : Int32)), .val (.int m), .val (.int (m - (16 : Int32))), .val (.int (34 : Int32))] [] := H22.istore d_ncap_32
  have H24 : Hr x b_ncap Z EL1 0 0 h0 [] 36 #[.val (.ref s), .val (.int m), .val (.int (16 : Int32)), .val (.int m), .val (.int (m - (16 : Int32))), .val (.int (34 : Int32))] [.int (34 : Int32)] := H23.iload d_ncap_34
  have H25 : Hr x b_ncap Z EL1 0 0 h0 [] 38 #[.val (.ref s), .val (.int m), .val (.int (16 : Int32)), .val (.int m), .val (.int (m - (16 : Int32))), .val (.int (34 : Int32))] [.int (2147483647 : Int32), .int (34 : Int32)] := H24.ldcI (w247 hw) d_ncap_36
  have H26 : Hr x b_ncap Z EL1 0 0 h0 [] 51 #[.val (.ref s), .val (.int m), .val (.int (16 : Int32)), .val (.int m), .val (.int (m - (16 : Int32))), .val (.int (34 : Int32))] [] := H25.icmpT d_ncap_38 (XT.ii_ne_t (by decide))
  have H27 : Hr x b_ncap Z EL1 0 0 h0 [] 53 #[.val (.ref s), .val (.int m), .val (.int (16 : Int32)), .val (.int m), .val (.int (m - (16 : Int32))), .val (.int (34 : Int32))] [.int (34 : Int32)] := H26.iload d_ncap_51
  have H28 : Hr x b_ncap Z EL1 0 0 h0 [] 54 #[.val (.ref s), .val (.int m), .val (.int (16 : Int32)), .val (.int m), .val (.int (m - (16 : Int32))), .val (.int (34 : Int32))] [.ref s, .int (34 : Int32)] := H27.aloadN d_ncap_53
  have H29 : Hr x b_ncap Z EL1 0 0 h0 [] 57 #[.val (.ref s), .val (.int m), .val (.int (16 : Int32)), .val (.int m), .val (.int (m - (16 : Int32))), .val (.int (34 : Int32))] [.int (0 : Int32), .int (34 : Int32)] := H28.getF (w44 hw) F.2.2.1 d_ncap_54
  have H30 : Hr x b_ncap Z EL1 0 0 h0 [] 58 #[.val (.ref s), .val (.int m), .val (.int (16 : Int32)), .val (.int m), .val (.int (m - (16 : Int32))), .val (.int (34 : Int32))] [.int (34 : Int32)] := H29.ishr d_ncap_57 (hv := (by decide))
  exact H30.finI d_ncap_58 ⟨rfl, rfl, rfl⟩ sub0
set_option maxRecDepth 65536 in
set_option maxHeartbeats 4000000 in
theorem ct_mmin2 {a0 : Array Value} {Z : State} (hw : ∀ d ∈ tables_1, d.before a0 Z = true) (l : Launch) (nar kn : Bool) (hnr : nar = false) (h0 : Heap)  :
    Ct l Z EL1 (⟨"java/lang/Math", "min", "(II)I"⟩ : MethodName) jdk_29_method_69_code 2 (Option.some Jvm.ClassFile.FieldType.int) ({ frames := 0, cells := 0, slots := 0, locals := 0 } : Room) #[.int (Int32.ofNat 16), .int (Int32.ofNat 34)] h0 [] nar kn (fun v h sn => v = some (.int (Int32.ofNat 16)) ∧ sn = [] ∧ h = h0) := by
  refine Ct.intro pf_mmin (ew hw) (ef_mmin 16 34) ?_
  intro x hl hn0 hkn hsf hh H0
  have hnar : x.nar = false := hn0.trans hnr
  have H0 : Hr x b_mmin Z EL1 0 0 h0 [] 0 #[.val (.int (Int32.ofNat 16)), .val (.int (Int32.ofNat 34))] [] := H0
  have H1 : Hr x b_mmin Z EL1 0 0 h0 [] 1 #[.val (.int (Int32.ofNat 16)), .val (.int (Int32.ofNat 34))] [.int (Int32.ofNat 16)] := H0.iloadN d_mmin_0
  have H2 : Hr x b_mmin Z EL1 0 0 h0 [] 2 #[.val (.int (Int32.ofNat 16)), .val (.int (Int32.ofNat 34))] [.int (Int32.ofNat 34), .int (Int32.ofNat 16)] := H1.iloadN d_mmin_1
  have H3 : Hr x b_mmin Z EL1 0 0 h0 [] 5 #[.val (.int (Int32.ofNat 16)), .val (.int (Int32.ofNat 34))] [] := H2.icmpF d_mmin_2 (XT.ii_gt_f (by decide))
  have H4 : Hr x b_mmin Z EL1 0 0 h0 [] 6 #[.val (.int (Int32.ofNat 16)), .val (.int (Int32.ofNat 34))] [.int (Int32.ofNat 16)] := H3.iloadN d_mmin_5
  have H5 : Hr x b_mmin Z EL1 0 0 h0 [] 10 #[.val (.int (Int32.ofNat 16)), .val (.int (Int32.ofNat 34))] [.int (Int32.ofNat 16)] := H4.goto d_mmin_6
  exact H5.finI d_mmin_10 ⟨rfl, rfl, rfl⟩ sub0
def b_cpo : Bx := (({ frames := 1, cells := 1, slots := 34, locals := 18 } : Room), (⟨"java/util/Arrays", "copyOf", "([BI)[B"⟩ : MethodName), jdk_65_method_121_code, 3, (Option.some (Jvm.ClassFile.FieldType.array Jvm.ClassFile.FieldType.byte)))
theorem ef_cpo (a : Addr) (mI : MethodId) : entryFrame mI #[.ref a, .int (Int32.ofNat 34)] 3 = mkF mI 0 #[.val (.ref a), .val (.int (Int32.ofNat 34)), .unset] [] := by first | (simp [entryFrame, mkF, argsToLocals, Value.category]; done) | rfl
theorem pd_cpo : parseMethodDescriptor "([BI)[B" = some ⟨[(.array .byte), .int], some (.array .byte)⟩ := by decide +kernel
set_option maxRecDepth 65536 in
set_option maxHeartbeats 4000000 in
theorem ct_cpo {a0 : Array Value} {Z : State} (hw : ∀ d ∈ tables_1, d.before a0 Z = true) (l : Launch) (nar kn : Bool) (hnr : nar = false) (h0 : Heap) (a : Addr) (vs : List Value) (Fa : Ar Z h0 a .byte vs) (bv : ∀ v ∈ vs, fits .byte v = true) (h16 : vs.length = 16) :
    Ct l Z EL1 (⟨"java/util/Arrays", "copyOf", "([BI)[B"⟩ : MethodName) jdk_65_method_121_code 3 (Option.some (Jvm.ClassFile.FieldType.array Jvm.ClassFile.FieldType.byte)) ({ frames := 1, cells := 1, slots := 34, locals := 18 } : Room) #[.ref a, .int (Int32.ofNat 34)] h0 [] nar kn (fun v h sn => ∃ u, v = some (.ref u) ∧ h0.size ≤ u ∧ sn = [u] ∧ Ar Z h u .byte (vs ++ List.replicate 18 (.int 0))) := by
  refine Ct.intro (plainFor_of_name pn_java_util_Arrays) (ew hw) (ef_cpo a) ?_
  intro x hl hn0 hkn hsf hh H0
  have hnar : x.nar = false := hn0.trans hnr
  have H0 : Hr x b_cpo Z EL1 0 0 h0 [] 0 #[.val (.ref a), .val (.int (Int32.ofNat 34)), .unset] [] := H0
  have H1 : Hr x b_cpo Z EL1 0 0 h0 [] 1 #[.val (.ref a), .val (.int (Int32.ofNat 34)), .unset] [.int (Int32.ofNat 34)] := H0.iloadN d_cpo_0
  have H2 : Hr x b_cpo Z EL1 0 0 h0 [] 2 #[.val (.ref a), .val (.int (Int32.ofNat 34)), .unset] [.ref a, .int (Int32.ofNat 34)] := H1.aloadN d_cpo_1
  have H3 : Hr x b_cpo Z EL1 0 0 h0 [] 3 #[.val (.ref a), .val (.int (Int32.ofNat 34)), .unset] [.int (Int32.ofNat 16), .int (Int32.ofNat 34)] := H2.arraylength Fa d_cpo_2 (hn := (by rw [h16]))
  have H4 : Hr x b_cpo Z EL1 0 0 h0 [] 14 #[.val (.ref a), .val (.int (Int32.ofNat 34)), .unset] [] := H3.icmpT d_cpo_3 (XT.ii_ne_t (by decide))
  have H5 : Hr x b_cpo Z EL1 0 0 h0 [] 15 #[.val (.ref a), .val (.int (Int32.ofNat 34)), .unset] [.int (Int32.ofNat 34)] := H4.iloadN d_cpo_14
  obtain ⟨h1, E1, Fu, H6⟩ := H5.newarray (aty := .byte) (cap := 34) (w15 hw) d_cpo_15 (by decide) (by decide) (by decide) (by first | decide | (simp [b_cpo, Bx.R]; done) | (simp [b_cpo, Bx.R]; omega)) (by first | decide | (simp [b_cpo, Bx.R]; done) | (simp [b_cpo, Bx.R]; omega))
  obtain ⟨u, g_u⟩ : ∃ z, z = h0.size := ⟨_, rfl⟩
  rw [← g_u] at Fu H6
  have Fu : Ar Z h1 u .byte (List.replicate 34 (.int 0)) := Fu
  have H6 : Hr x b_cpo Z EL1 1 34 h1 [u] 17 #[.val (.ref a), .val (.int (Int32.ofNat 34)), .unset] [.ref u] := H6
  have H7 : Hr x b_cpo Z EL1 1 34 h1 [u] 18 #[.val (.ref a), .val (.int (Int32.ofNat 34)), .val (.ref u)] [] := H6.astoreN d_cpo_17
  have H8 : Hr x b_cpo Z EL1 1 34 h1 [u] 19 #[.val (.ref a), .val (.int (Int32.ofNat 34)), .val (.ref u)] [.ref a] := H7.aloadN d_cpo_18
  have H9 : Hr x b_cpo Z EL1 1 34 h1 [u] 20 #[.val (.ref a), .val (.int (Int32.ofNat 34)), .val (.ref u)] [.int (0 : Int32), .ref a] := H8.iconst d_cpo_19
  have H10 : Hr x b_cpo Z EL1 1 34 h1 [u] 21 #[.val (.ref a), .val (.int (Int32.ofNat 34)), .val (.ref u)] [.ref u, .int (0 : Int32), .ref a] := H9.aloadN d_cpo_20
  have H11 : Hr x b_cpo Z EL1 1 34 h1 [u] 22 #[.val (.ref a), .val (.int (Int32.ofNat 34)), .val (.ref u)] [.int (0 : Int32), .ref u, .int (0 : Int32), .ref a] := H10.iconst d_cpo_21
  have H12 : Hr x b_cpo Z EL1 1 34 h1 [u] 23 #[.val (.ref a), .val (.int (Int32.ofNat 34)), .val (.ref u)] [.ref a, .int (0 : Int32), .ref u, .int (0 : Int32), .ref a] := H11.aloadN d_cpo_22
  have H13 : Hr x b_cpo Z EL1 1 34 h1 [u] 24 #[.val (.ref a), .val (.int (Int32.ofNat 34)), .val (.ref u)] [.int (Int32.ofNat 16), .int (0 : Int32), .ref u, .int (0 : Int32), .ref a] := H12.arraylength (Fa.ext E1) d_cpo_23 (hn := (by rw [h16]))
  have H14 : Hr x b_cpo Z EL1 1 34 h1 [u] 25 #[.val (.ref a), .val (.int (Int32.ofNat 34)), .val (.ref u)] [.int (Int32.ofNat 34), .int (Int32.ofNat 16), .int (0 : Int32), .ref u, .int (0 : Int32), .ref a] := H13.iloadN d_cpo_24
  obtain ⟨_, h2, _, ⟨rfl, rfl, e2⟩, K2, H15⟩ := H14.callS (argsL := [.int (Int32.ofNat 16), .int (Int32.ofNat 34)]) (rest := [.int (0 : Int32), .ref u, .int (0 : Int32), .ref a]) (Wr := 4) (ct_mmin2 hw x.l x.nar x.kn hnar h1) sub0 (w135 hw) (w136 hw) (w137 hw) (w138 hw) d_cpo_25 pd_mmin rfl (hf := by first | decide | (simp [b_cpo, Bx.R]; done) | (simp [b_cpo, Bx.R]; omega)) (hl := by first | decide | (simp [b_cpo, Bx.R]; done) | (simp [b_cpo, Bx.R]; omega)) (hc := by first | decide | (simp [b_cpo, Bx.R]; done) | (simp [b_cpo, Bx.R]; omega)) (hs := by first | decide | (simp [b_cpo, Bx.R]; done) | (simp [b_cpo, Bx.R]; omega))
  rw [e2] at H15
  have H15 : Hr x b_cpo Z EL1 1 34 h1 [u] 28 #[.val (.ref a), .val (.int (Int32.ofNat 34)), .val (.ref u)] [.int (Int32.ofNat 16), .int (0 : Int32), .ref u, .int (0 : Int32), .ref a] := H15
  obtain ⟨h3, K3, Fu3, H16⟩ := H15.arraycopy (i := 0) (j := 0) (n := 16) (Wr := 0) (ty := .byte) (by simp) (w139 hw) (w94 hw) (w92 hw) (w93 hw) (Fa.ext E1) Fu (by decide) bv (fun v hv => by rw [List.eq_of_mem_replicate hv]; rfl) (by omega) (by simp) d_cpo_28 (hf := by decide) (hl := by decide)
  have H16 : Hr x b_cpo Z EL1 1 34 h3 [u] 31 #[.val (.ref a), .val (.int (Int32.ofNat 34)), .val (.ref u)] [] := H16
  have H17 : Hr x b_cpo Z EL1 1 34 h3 [u] 32 #[.val (.ref a), .val (.int (Int32.ofNat 34)), .val (.ref u)] [.ref u] := H16.aloadN d_cpo_31
  rw [copied h16] at Fu3
  exact H17.finA d_cpo_32 ⟨u, rfl, by omega, rfl, Fu3⟩ (sub1 (by simp))
def b_ecag : Bx := (({ frames := 3, cells := 1, slots := 34, locals := 48 } : Room), (⟨"java/lang/AbstractStringBuilder", "ensureCapacityInternal", "(I)V"⟩ : MethodName), jdk_68_method_9_code, 3, (Option.none : Option Jvm.ClassFile.FieldType))
theorem ef_ecag (s : Addr) (m : Int32) (mI : MethodId) : entryFrame mI #[.ref s, .int m] 3 = mkF mI 0 #[.val (.ref s), .val (.int m), .unset] [] := by first | (simp [entryFrame, mkF, argsToLocals, Value.category]; done) | rfl
theorem pd_ecag : parseMethodDescriptor "(I)V" = some ⟨[.int], none⟩ := by decide +kernel
set_option maxRecDepth 65536 in
set_option maxHeartbeats 4000000 in
theorem ct_ecag {a0 : Array Value} {Z : State} (hw : ∀ d ∈ tables_1, d.before a0 Z = true) (l : Launch) (nar kn : Bool) (hnr : nar = false) (h0 : Heap) (s t : Addr) (m : Int32) (hm : m = 17 ∨ m = 18) (bs : List Int32) (r : Nat) (F : Sbd Z h0 s t bs r) (e16 : bs.length + r = 16) (bb : BL bs) :
    Ct l Z EL1 (⟨"java/lang/AbstractStringBuilder", "ensureCapacityInternal", "(I)V"⟩ : MethodName) jdk_68_method_9_code 3 (Option.none : Option Jvm.ClassFile.FieldType) ({ frames := 3, cells := 1, slots := 34, locals := 48 } : Room) #[.ref s, .int m] h0 [s] nar kn (fun v h sn => ∃ u, v = none ∧ sn = [u] ∧ h0.size ≤ u ∧ Sbd Z h s u bs (r + 18)) := by
  refine Ct.intro (plainFor_of_name pn_java_lang_AbstractStringBuilder) (ew hw) (ef_ecag s m) ?_
  intro x hl hn0 hkn hsf hh H0
  have hnar : x.nar = false := hn0.trans hnr
  have H0 : Hr x b_ecag Z EL1 0 0 h0 [s] 0 #[.val (.ref s), .val (.int m), .unset] [] := H0
  have n01 := slot_ne (a0 := a0) (C := "java/lang/StringBuilder") (O := "java/lang/AbstractStringBuilder") (O' := "java/lang/AbstractStringBuilder") (n := "value") (n' := "coder") (Or.inl (w43 hw)) (Or.inl (w45 hw)) (by decide) (t := .array .byte) (t' := .byte) (by decide) (by decide)
  have n02 := slot_ne (a0 := a0) (C := "java/lang/StringBuilder") (O := "java/lang/AbstractStringBuilder") (O' := "java/lang/AbstractStringBuilder") (n := "value") (n' := "count") (Or.inl (w43 hw)) (Or.inl (w69 hw)) (by decide) (t := .array .byte) (t' := .int) (by decide) (by decide)
  have n12 := slot_ne (a0 := a0) (C := "java/lang/StringBuilder") (O := "java/lang/AbstractStringBuilder") (O' := "java/lang/AbstractStringBuilder") (n := "coder") (n' := "count") (Or.inl (w45 hw)) (Or.inl (w69 hw)) (by decide) (t := .byte) (t' := .int) (by decide) (by decide)
  have hpos : (0 : Int32) < m - 16 := by rcases hm with rfl | rfl <;> decide
  have H1 : Hr x b_ecag Z EL1 0 0 h0 [s] 1 #[.val (.ref s), .val (.int m), .unset] [.ref s] := H0.aloadN d_ecag_0
  have H2 : Hr x b_ecag Z EL1 0 0 h0 [s] 4 #[.val (.ref s), .val (.int m), .unset] [.ref t] := H1.getF (w42 hw) F.2.1 d_ecag_1
  have H3 : Hr x b_ecag Z EL1 0 0 h0 [s] 5 #[.val (.ref s), .val (.int m), .unset] [.int (16 : Int32)] := H2.arraylength F.2.2.2.2 d_ecag_4 (hn := (by rw [len16 e16]; rfl))
  have H4 : Hr x b_ecag Z EL1 0 0 h0 [s] 6 #[.val (.ref s), .val (.int m), .unset] [.ref s, .int (16 : Int32)] := H3.aloadN d_ecag_5
  have H5 : Hr x b_ecag Z EL1 0 0 h0 [s] 9 #[.val (.ref s), .val (.int m), .unset] [.int (0 : Int32), .int (16 : Int32)] := H4.getF (w44 hw) F.2.2.1 d_ecag_6
  have H6 : Hr x b_ecag Z EL1 0 0 h0 [s] 10 #[.val (.ref s), .val (.int m), .unset] [.int (16 : Int32)] := H5.ishr d_ecag_9 (hv := (shr0 _))
  have H7 : Hr x b_ecag Z EL1 0 0 h0 [s] 11 #[.val (.ref s), .val (.int m), .val (.int (16 : Int32))] [] := H6.istoreN d_ecag_10
  have H8 : Hr x b_ecag Z EL1 0 0 h0 [s] 12 #[.val (.ref s), .val (.int m), .val (.int (16 : Int32))] [.int m] := H7.iloadN d_ecag_11
  have H9 : Hr x b_ecag Z EL1 0 0 h0 [s] 13 #[.val (.ref s), .val (.int m), .val (.int (16 : Int32))] [.int (16 : Int32), .int m] := H8.iloadN d_ecag_12
  have H10 : Hr x b_ecag Z EL1 0 0 h0 [s] 14 #[.val (.ref s), .val (.int m), .val (.int (16 : Int32))] [.int (m - (16 : Int32))] := H9.isub d_ecag_13
  have H11 : Hr x b_ecag Z EL1 0 0 h0 [s] 17 #[.val (.ref s), .val (.int m), .val (.int (16 : Int32))] [] := H10.ifF d_ecag_14 (XT.i0_le_f hpos)
  have H12 : Hr x b_ecag Z EL1 0 0 h0 [s] 18 #[.val (.ref s), .val (.int m), .val (.int (16 : Int32))] [.ref s] := H11.aloadN d_ecag_17
  have H13 : Hr x b_ecag Z EL1 0 0 h0 [s] 19 #[.val (.ref s), .val (.int m), .val (.int (16 : Int32))] [.ref s, .ref s] := H12.aloadN d_ecag_18
  have H14 : Hr x b_ecag Z EL1 0 0 h0 [s] 22 #[.val (.ref s), .val (.int m), .val (.int (16 : Int32))] [.ref t, .ref s] := H13.getF (w42 hw) F.2.1 d_ecag_19
  have H15 : Hr x b_ecag Z EL1 0 0 h0 [s] 23 #[.val (.ref s), .val (.int m), .val (.int (16 : Int32))] [.ref s, .ref t, .ref s] := H14.aloadN d_ecag_22
  have H16 : Hr x b_ecag Z EL1 0 0 h0 [s] 24 #[.val (.ref s), .val (.int m), .val (.int (16 : Int32))] [.int m, .ref s, .ref t, .ref s] := H15.iloadN d_ecag_23
  obtain ⟨_, h1, _, ⟨rfl, rfl, e1⟩, K1, H17⟩ := H16.callP (argsL := [.int m]) (rest := [.ref t, .ref s]) (Wr := 2) (a := s) (ct_ncap hw x.l x.nar x.kn hnar h0 s t m hm bs r F e16) sub0 F.1 (w234 hw) (w235 hw) (w73 hw) (w236 hw) (w38 hw) (w238 hw) d_ecag_24 pd_ncap rfl (hf := by first | decide | (simp [b_ecag, Bx.R]; done) | (simp [b_ecag, Bx.R]; omega)) (hl := by first | decide | (simp [b_ecag, Bx.R]; done) | (simp [b_ecag, Bx.R]; omega)) (hc := by first | decide | (simp [b_ecag, Bx.R]; done) | (simp [b_ecag, Bx.R]; omega)) (hs := by first | decide | (simp [b_ecag, Bx.R]; done) | (simp [b_ecag, Bx.R]; omega))
  rw [e1] at H17
  have H17 : Hr x b_ecag Z EL1 0 0 h0 [s] 27 #[.val (.ref s), .val (.int m), .val (.int (16 : Int32))] [.int (34 : Int32), .ref t, .ref s] := H17
  have H18 : Hr x b_ecag Z EL1 0 0 h0 [s] 28 #[.val (.ref s), .val (.int m), .val (.int (16 : Int32))] [.ref s, .int (34 : Int32), .ref t, .ref s] := H17.aloadN d_ecag_27
  have H19 : Hr x b_ecag Z EL1 0 0 h0 [s] 31 #[.val (.ref s), .val (.int m), .val (.int (16 : Int32))] [.int (0 : Int32), .int (34 : Int32), .ref t, .ref s] := H18.getF (w44 hw) F.2.2.1 d_ecag_28
  have H20 : Hr x b_ecag Z EL1 0 0 h0 [s] 32 #[.val (.ref s), .val (.int m), .val (.int (16 : Int32))] [.int (Int32.ofNat 34), .ref t, .ref s] := H19.ishl d_ecag_31 (hv := (by decide))
  obtain ⟨_, h2, _, ⟨u, rfl, hu, rfl, Fu⟩, K2, H21⟩ := H20.callS (argsL := [.ref t, .int (Int32.ofNat 34)]) (rest := [.ref s]) (Wr := 1) (ct_cpo hw x.l x.nar x.kn hnar h0 t _ F.2.2.2.2 (bb.app (BL.rep r)).vals (by simp [e16])) sub0 (w248 hw) (w249 hw) (w127 hw) (w250 hw) d_ecag_32 pd_cpo rfl (hf := by first | decide | (simp [b_ecag, Bx.R]; done) | (simp [b_ecag, Bx.R]; omega)) (hl := by first | decide | (simp [b_ecag, Bx.R]; done) | (simp [b_ecag, Bx.R]; omega)) (hc := by first | decide | (simp [b_ecag, Bx.R]; done) | (simp [b_ecag, Bx.R]; omega)) (hs := by first | decide | (simp [b_ecag, Bx.R]; done) | (simp [b_ecag, Bx.R]; omega))
  have H21 : Hr x b_ecag Z EL1 1 34 h2 [u, s] 35 #[.val (.ref s), .val (.int m), .val (.int (16 : Int32))] [.ref u, .ref s] := H21
  have hus : @Ne Nat u s := by have := exa_lt F.1; omega
  obtain ⟨h3, W3, H22⟩ := H21.putF (by simp) (w42 hw) (F.2.1.keep K2 nin0) (F.1.keep K2) (Or.inl (w43 hw)) (w29 hw) d_ecag_35 (ty := (.array .byte))
  have H22 : Hr x b_ecag Z EL1 1 34 h3 [u, s] 38 #[.val (.ref s), .val (.int m), .val (.int (16 : Int32))] [] := H22
  rw [grown] at Fu
  exact H22.finN d_ecag_38 rfl (by decide) (by decide) (sub1 (by simp)) ⟨u, rfl, rfl, hu, (F.1.keep K2).wr W3, Fld.same W3 (F.2.1.keep K2 nin0), (F.2.2.1.keep K2 nin0).other W3 (Or.inr (Ne.symm n01)), (F.2.2.2.1.keep K2 nin0).other W3 (Or.inr (Ne.symm n02)), Fu.other W3 hus⟩
def b_aapg : Bx := (({ frames := 4, cells := 1, slots := 34, locals := 62 } : Room), (⟨"java/lang/AbstractStringBuilder", "append", "(Ljava/lang/String;)Ljava/lang/AbstractStringBuilder;"⟩ : MethodName), jdk_68_method_22_code, 3, (Option.some (Jvm.ClassFile.FieldType.object "java/lang/AbstractStringBuilder")))
theorem ef_aapg (s a : Addr) (mI : MethodId) : entryFrame mI #[.ref s, .ref a] 3 = mkF mI 0 #[.val (.ref s), .val (.ref a), .unset] [] := by first | (simp [entryFrame, mkF, argsToLocals, Value.category]; done) | rfl
theorem pd_aapg : parseMethodDescriptor "(Ljava/lang/String;)Ljava/lang/AbstractStringBuilder;" = some ⟨[(.object "java/lang/String")], some (.object "java/lang/AbstractStringBuilder")⟩ := by decide +kernel
set_option maxRecDepth 65536 in
set_option maxHeartbeats 4000000 in
theorem ct_aapg {a0 : Array Value} {Z : State} (hw : ∀ d ∈ tables_1, d.before a0 Z = true) (l : Launch) (nar kn : Bool) (hnr : nar = false) (h0 : Heap) (s t a k : Addr) (bs ds : List Int32) (r : Nat) (F : Sbd Z h0 s t bs r) (G : Str Z h0 a k ds) (bb : BL bs) (bd : BL ds) (e16 : bs.length + r = 16) (hm : bs.length + ds.length = 17 ∨ bs.length + ds.length = 18) (cz : Int32) (O : Sta Z Z.heap "java/lang/String" "COMPACT_STRINGS" "Z" (.int cz)) (hcz : ¬ cz = 0) :
    Ct l Z EL1 (⟨"java/lang/AbstractStringBuilder", "append", "(Ljava/lang/String;)Ljava/lang/AbstractStringBuilder;"⟩ : MethodName) jdk_68_method_22_code 3 (Option.some (Jvm.ClassFile.FieldType.object "java/lang/AbstractStringBuilder")) ({ frames := 4, cells := 1, slots := 34, locals := 62 } : Room) #[.ref s, .ref a] h0 [s] nar kn (fun v h sn => ∃ u, v = some (.ref s) ∧ sn = [u] ∧ h0.size ≤ u ∧ Sbd Z h s u (bs ++ ds) (r + 18 - ds.length)) := by
  refine Ct.intro (plainFor_of_name pn_java_lang_AbstractStringBuilder) (ew hw) (ef_aapg s a) ?_
  intro x hl hn0 hkn hsf hh H0
  have hnar : x.nar = false := hn0.trans hnr
  have H0 : Hr x b_aapg Z EL1 0 0 h0 [s] 0 #[.val (.ref s), .val (.ref a), .unset] [] := H0
  have n01 := slot_ne (a0 := a0) (C := "java/lang/StringBuilder") (O := "java/lang/AbstractStringBuilder") (O' := "java/lang/AbstractStringBuilder") (n := "value") (n' := "coder") (Or.inl (w43 hw)) (Or.inl (w45 hw)) (by decide) (t := .array .byte) (t' := .byte) (by decide) (by decide)
  have n02 := slot_ne (a0 := a0) (C := "java/lang/StringBuilder") (O := "java/lang/AbstractStringBuilder") (O' := "java/lang/AbstractStringBuilder") (n := "value") (n' := "count") (Or.inl (w43 hw)) (Or.inl (w69 hw)) (by decide) (t := .array .byte) (t' := .int) (by decide) (by decide)
  have n12 := slot_ne (a0 := a0) (C := "java/lang/StringBuilder") (O := "java/lang/AbstractStringBuilder") (O' := "java/lang/AbstractStringBuilder") (n := "coder") (n' := "count") (Or.inl (w45 hw)) (Or.inl (w69 hw)) (by decide) (t := .byte) (t' := .int) (by decide) (by decide)
  have has : a ≠ s := G.1.ne F.1 (by decide)
  have hks : k ≠ s := Ne.symm (exa_neAr F.1 G.2.2.2 (w29 hw))
  have H1 : Hr x b_aapg Z EL1 0 0 h0 [s] 1 #[.val (.ref s), .val (.ref a), .unset] [.ref a] := H0.aloadN d_aapg_0
  have H2 : Hr x b_aapg Z EL1 0 0 h0 [s] 9 #[.val (.ref s), .val (.ref a), .unset] [] := H1.ifnonnullT d_aapg_1
  have H3 : Hr x b_aapg Z EL1 0 0 h0 [s] 10 #[.val (.ref s), .val (.ref a), .unset] [.ref a] := H2.aloadN d_aapg_9
  obtain ⟨_, h1, _, ⟨rfl, rfl, e1⟩, K1, H4⟩ := H3.callV (argsL := []) (rest := []) (Wr := 0) (a := a) (ct_slen hw x.l x.nar x.kn hnar h0 a k ds G cz O hcz) sub0 G.1 (w57 hw) (w58 hw) (w60 hw) (w60 hw) (w59 hw) (w2 hw) (w61 hw) d_aapg_10 pd_slen rfl (hf := by first | decide | (simp [b_aapg, Bx.R]; done) | (simp [b_aapg, Bx.R]; omega)) (hl := by first | decide | (simp [b_aapg, Bx.R]; done) | (simp [b_aapg, Bx.R]; omega)) (hc := by first | decide | (simp [b_aapg, Bx.R]; done) | (simp [b_aapg, Bx.R]; omega)) (hs := by first | decide | (simp [b_aapg, Bx.R]; done) | (simp [b_aapg, Bx.R]; omega))
  rw [e1] at H4
  have H4 : Hr x b_aapg Z EL1 0 0 h0 [s] 13 #[.val (.ref s), .val (.ref a), .unset] [.int (Int32.ofNat ds.length)] := H4
  have H5 : Hr x b_aapg Z EL1 0 0 h0 [s] 14 #[.val (.ref s), .val (.ref a), .val (.int (Int32.ofNat ds.length))] [] := H4.istoreN d_aapg_13
  have H6 : Hr x b_aapg Z EL1 0 0 h0 [s] 15 #[.val (.ref s), .val (.ref a), .val (.int (Int32.ofNat ds.length))] [.ref s] := H5.aloadN d_aapg_14
  have H7 : Hr x b_aapg Z EL1 0 0 h0 [s] 16 #[.val (.ref s), .val (.ref a), .val (.int (Int32.ofNat ds.length))] [.ref s, .ref s] := H6.aloadN d_aapg_15
  have H8 : Hr x b_aapg Z EL1 0 0 h0 [s] 19 #[.val (.ref s), .val (.ref a), .val (.int (Int32.ofNat ds.length))] [.int (Int32.ofNat bs.length), .ref s] := H7.getF (w68 hw) F.2.2.2.1 d_aapg_16
  have H9 : Hr x b_aapg Z EL1 0 0 h0 [s] 20 #[.val (.ref s), .val (.ref a), .val (.int (Int32.ofNat ds.length))] [.int (Int32.ofNat ds.length), .int (Int32.ofNat bs.length), .ref s] := H8.iloadN d_aapg_19
  have H10 : Hr x b_aapg Z EL1 0 0 h0 [s] 21 #[.val (.ref s), .val (.ref a), .val (.int (Int32.ofNat ds.length))] [.int (Int32.ofNat (bs.length + ds.length)), .ref s] := H9.iadd d_aapg_20 (hv := (ofNat_add _ _))
  obtain ⟨_, h2, _, ⟨u, rfl, rfl, hu, F2⟩, K2, H11⟩ := H10.callP (argsL := [.int (Int32.ofNat (bs.length + ds.length))]) (rest := []) (Wr := 0) (a := s) (ct_ecag hw x.l x.nar x.kn hnar h0 s t (Int32.ofNat (bs.length + ds.length)) (hm.imp (fun q => by rw [q]; rfl) (fun q => by rw [q]; rfl)) bs r F e16 bb) (sub1 (by simp)) F.1 (w70 hw) (w71 hw) (w73 hw) (w72 hw) (w38 hw) (w74 hw) d_aapg_21 pd_ecag rfl (hf := by first | decide | (simp [b_aapg, Bx.R]; done) | (simp [b_aapg, Bx.R]; omega)) (hl := by first | decide | (simp [b_aapg, Bx.R]; done) | (simp [b_aapg, Bx.R]; omega)) (hc := by first | decide | (simp [b_aapg, Bx.R]; done) | (simp [b_aapg, Bx.R]; omega)) (hs := by first | decide | (simp [b_aapg, Bx.R]; done) | (simp [b_aapg, Bx.R]; omega))
  have H11 : Hr x b_aapg Z EL1 1 34 h2 [u, s] 24 #[.val (.ref s), .val (.ref a), .val (.int (Int32.ofNat ds.length))] [] := H11
  have hsu : @Ne Nat s u := by have := exa_lt F.1; omega
  have G2 := G.keep K2 (ninS has nin0) (ninS hks nin0)
  have H12 : Hr x b_aapg Z EL1 1 34 h2 [u, s] 25 #[.val (.ref s), .val (.ref a), .val (.int (Int32.ofNat ds.length))] [.ref s] := H11.aloadN d_aapg_24
  have H13 : Hr x b_aapg Z EL1 1 34 h2 [u, s] 26 #[.val (.ref s), .val (.ref a), .val (.int (Int32.ofNat ds.length))] [.ref s, .ref s] := H12.aloadN d_aapg_25
  have H14 : Hr x b_aapg Z EL1 1 34 h2 [u, s] 29 #[.val (.ref s), .val (.ref a), .val (.int (Int32.ofNat ds.length))] [.int (Int32.ofNat bs.length), .ref s] := H13.getF (w68 hw) F2.2.2.2.1 d_aapg_26
  have H15 : Hr x b_aapg Z EL1 1 34 h2 [u, s] 30 #[.val (.ref s), .val (.ref a), .val (.int (Int32.ofNat ds.length))] [.ref a, .int (Int32.ofNat bs.length), .ref s] := H14.aloadN d_aapg_29
  obtain ⟨_, h3, _, ⟨rfl, rfl, D3⟩, K3, H16⟩ := H15.callP (argsL := [.int (Int32.ofNat bs.length), .ref a]) (rest := []) (Wr := 0) (a := s) (ct_psta hw x.l x.nar x.kn hnar h2 s u a k bs ds (r + 18) F2 G2 bb bd (by omega) hsu cz O hcz) (sub1 (by simp)) F2.1 (w75 hw) (w76 hw) (w73 hw) (w77 hw) (w38 hw) (w79 hw) d_aapg_30 pd_psta rfl (hf := by first | decide | (simp [b_aapg, Bx.R]; done) | (simp [b_aapg, Bx.R]; omega)) (hl := by first | decide | (simp [b_aapg, Bx.R]; done) | (simp [b_aapg, Bx.R]; omega)) (hc := by first | decide | (simp [b_aapg, Bx.R]; done) | (simp [b_aapg, Bx.R]; omega)) (hs := by first | decide | (simp [b_aapg, Bx.R]; done) | (simp [b_aapg, Bx.R]; omega))
  have H16 : Hr x b_aapg Z EL1 1 34 h3 [u, s] 33 #[.val (.ref s), .val (.ref a), .val (.int (Int32.ofNat ds.length))] [] := H16
  have q3 : s ∉ [u] := ninS hsu nin0
  have H17 : Hr x b_aapg Z EL1 1 34 h3 [u, s] 34 #[.val (.ref s), .val (.ref a), .val (.int (Int32.ofNat ds.length))] [.ref s] := H16.aloadN d_aapg_33
  have H18 : Hr x b_aapg Z EL1 1 34 h3 [u, s] 35 #[.val (.ref s), .val (.ref a), .val (.int (Int32.ofNat ds.length))] [.ref s, .ref s] := H17.dup d_aapg_34
  have H19 : Hr x b_aapg Z EL1 1 34 h3 [u, s] 38 #[.val (.ref s), .val (.ref a), .val (.int (Int32.ofNat ds.length))] [.int (Int32.ofNat bs.length), .ref s] := H18.getF (w68 hw) (F2.2.2.2.1.keep K3 q3) d_aapg_35
  have H20 : Hr x b_aapg Z EL1 1 34 h3 [u, s] 39 #[.val (.ref s), .val (.ref a), .val (.int (Int32.ofNat ds.length))] [.int (Int32.ofNat ds.length), .int (Int32.ofNat bs.length), .ref s] := H19.iloadN d_aapg_38
  have H21 : Hr x b_aapg Z EL1 1 34 h3 [u, s] 40 #[.val (.ref s), .val (.ref a), .val (.int (Int32.ofNat ds.length))] [.int (Int32.ofNat (bs ++ ds).length), .ref s] := H20.iadd d_aapg_39 (hv := (by rw [ofNat_add, List.length_append]))
  obtain ⟨h4, W4, H22⟩ := H21.putF (by simp) (w68 hw) (F2.2.2.2.1.keep K3 q3) (F2.1.keep K3) (Or.inl (w69 hw)) (w29 hw) d_aapg_40 (ty := .int)
  have H22 : Hr x b_aapg Z EL1 1 34 h4 [u, s] 43 #[.val (.ref s), .val (.ref a), .val (.int (Int32.ofNat ds.length))] [] := H22
  have H23 : Hr x b_aapg Z EL1 1 34 h4 [u, s] 44 #[.val (.ref s), .val (.ref a), .val (.int (Int32.ofNat ds.length))] [.ref s] := H22.aloadN d_aapg_43
  exact H23.finA d_aapg_44 ⟨u, rfl, rfl, hu, (F2.1.keep K3).wr W4, (F2.2.1.keep K3 q3).other W4 (Or.inr n02), (F2.2.2.1.keep K3 q3).other W4 (Or.inr n12), Fld.same W4 (F2.2.2.2.1.keep K3 q3), D3.other W4 (Ne.symm hsu)⟩ (sub1 (by simp))
def b_sapg : Bx := (({ frames := 5, cells := 1, slots := 34, locals := 76 } : Room), (⟨"java/lang/StringBuilder", "append", "(Ljava/lang/String;)Ljava/lang/StringBuilder;"⟩ : MethodName), jdk_67_method_7_code, 2, (Option.some (Jvm.ClassFile.FieldType.object "java/lang/StringBuilder")))
theorem ef_sapg (s a : Addr) (mI : MethodId) : entryFrame mI #[.ref s, .ref a] 2 = mkF mI 0 #[.val (.ref s), .val (.ref a)] [] := by first | (simp [entryFrame, mkF, argsToLocals, Value.category]; done) | rfl
theorem pd_sapg : parseMethodDescriptor "(Ljava/lang/String;)Ljava/lang/StringBuilder;" = some ⟨[(.object "java/lang/String")], some (.object "java/lang/StringBuilder")⟩ := by decide +kernel
set_option maxRecDepth 65536 in
set_option maxHeartbeats 4000000 in
theorem ct_sapg {a0 : Array Value} {Z : State} (hw : ∀ d ∈ tables_1, d.before a0 Z = true) (l : Launch) (nar kn : Bool) (hnr : nar = false) (h0 : Heap) (s t a k : Addr) (bs ds : List Int32) (r : Nat) (F : Sbd Z h0 s t bs r) (G : Str Z h0 a k ds) (bb : BL bs) (bd : BL ds) (e16 : bs.length + r = 16) (hm : bs.length + ds.length = 17 ∨ bs.length + ds.length = 18) (cz : Int32) (O : Sta Z Z.heap "java/lang/String" "COMPACT_STRINGS" "Z" (.int cz)) (hcz : ¬ cz = 0) :
    Ct l Z EL1 (⟨"java/lang/StringBuilder", "append", "(Ljava/lang/String;)Ljava/lang/StringBuilder;"⟩ : MethodName) jdk_67_method_7_code 2 (Option.some (Jvm.ClassFile.FieldType.object "java/lang/StringBuilder")) ({ frames := 5, cells := 1, slots := 34, locals := 76 } : Room) #[.ref s, .ref a] h0 [s] nar kn (fun v h sn => ∃ u, v = some (.ref s) ∧ sn = [u] ∧ h0.size ≤ u ∧ Sbd Z h s u (bs ++ ds) (r + 18 - ds.length)) := by
  refine Ct.intro (plainFor_of_name pn_java_lang_StringBuilder) (ew hw) (ef_sapg s a) ?_
  intro x hl hn0 hkn hsf hh H0
  have hnar : x.nar = false := hn0.trans hnr
  have H0 : Hr x b_sapg Z EL1 0 0 h0 [s] 0 #[.val (.ref s), .val (.ref a)] [] := H0
  have H1 : Hr x b_sapg Z EL1 0 0 h0 [s] 1 #[.val (.ref s), .val (.ref a)] [.ref s] := H0.aloadN d_sapg_0
  have H2 : Hr x b_sapg Z EL1 0 0 h0 [s] 2 #[.val (.ref s), .val (.ref a)] [.ref a, .ref s] := H1.aloadN d_sapg_1
  obtain ⟨_, h1, _, ⟨u, rfl, rfl, hu, F1⟩, K1, H3⟩ := H2.callSup (argsL := [.ref a]) (rest := []) (Wr := 0) (a := s) (ct_aapg hw x.l x.nar x.kn hnar h0 s t a k bs ds r F G bb bd e16 hm cz O hcz) (fun z hz => hz) F.1 (w52 hw) (w53 hw) (w73 hw) (w54 hw) (w38 hw) (w56 hw) d_sapg_2 pd_aapg rfl (hf := by first | decide | (simp [b_sapg, Bx.R]; done) | (simp [b_sapg, Bx.R]; omega)) (hl := by first | decide | (simp [b_sapg, Bx.R]; done) | (simp [b_sapg, Bx.R]; omega)) (hc := by first | decide | (simp [b_sapg, Bx.R]; done) | (simp [b_sapg, Bx.R]; omega)) (hs := by first | decide | (simp [b_sapg, Bx.R]; done) | (simp [b_sapg, Bx.R]; omega))
  have H3 : Hr x b_sapg Z EL1 1 34 h1 [u, s] 5 #[.val (.ref s), .val (.ref a)] [.ref s] := H3
  have H4 : Hr x b_sapg Z EL1 1 34 h1 [u, s] 6 #[.val (.ref s), .val (.ref a)] [] := H3.pop d_sapg_5
  have H5 : Hr x b_sapg Z EL1 1 34 h1 [u, s] 7 #[.val (.ref s), .val (.ref a)] [.ref s] := H4.aloadN d_sapg_6
  exact H5.finA d_sapg_7 ⟨u, rfl, rfl, hu, F1⟩ (sub1 (by simp))
def b_cor0 : Bx := (({ frames := 1, cells := 1, slots := 16, locals := 14 } : Room), (⟨"java/util/Arrays", "copyOfRange", "([BII)[B"⟩ : MethodName), jdk_65_method_132_code, 3, (Option.some (Jvm.ClassFile.FieldType.array Jvm.ClassFile.FieldType.byte)))
theorem ef_cor0 (a : Addr) (mI : MethodId) : entryFrame mI #[.ref a, .int (0 : Int32), .int (Int32.ofNat 16)] 3 = mkF mI 0 #[.val (.ref a), .val (.int (0 : Int32)), .val (.int (Int32.ofNat 16))] [] := by first | (simp [entryFrame, mkF, argsToLocals, Value.category]; done) | rfl
theorem pd_cor0 : parseMethodDescriptor "([BII)[B" = some ⟨[(.array .byte), .int, .int], some (.array .byte)⟩ := by decide +kernel
set_option maxRecDepth 65536 in
set_option maxHeartbeats 4000000 in
theorem ct_cor0 {a0 : Array Value} {Z : State} (hw : ∀ d ∈ tables_1, d.before a0 Z = true) (l : Launch) (nar kn : Bool) (hnr : nar = false) (h0 : Heap) (a : Addr) (vs : List Value) (Fa : Ar Z h0 a .byte vs) (Xa : Exa Z h0 a "[B") (bv : ∀ v ∈ vs, fits .byte v = true) (h16 : vs.length = 16) :
    Ct l Z EL1 (⟨"java/util/Arrays", "copyOfRange", "([BII)[B"⟩ : MethodName) jdk_65_method_132_code 3 (Option.some (Jvm.ClassFile.FieldType.array Jvm.ClassFile.FieldType.byte)) ({ frames := 1, cells := 1, slots := 16, locals := 14 } : Room) #[.ref a, .int (0 : Int32), .int (Int32.ofNat 16)] h0 [] nar kn (fun v h sn => ∃ u, v = some (.ref u) ∧ h0.size ≤ u ∧ sn = [u] ∧ Ar Z h u .byte vs) := by
  refine Ct.intro (plainFor_of_name pn_java_util_Arrays) (ew hw) (ef_cor0 a) ?_
  intro x hl hn0 hkn hsf hh H0
  have hnar : x.nar = false := hn0.trans hnr
  have H0 : Hr x b_cor0 Z EL1 0 0 h0 [] 0 #[.val (.ref a), .val (.int (0 : Int32)), .val (.int (Int32.ofNat 16))] [] := H0
  have H1 : Hr x b_cor0 Z EL1 0 0 h0 [] 1 #[.val (.ref a), .val (.int (0 : Int32)), .val (.int (Int32.ofNat 16))] [.int (0 : Int32)] := H0.iloadN d_cor0_0
  have H2 : Hr x b_cor0 Z EL1 0 0 h0 [] 4 #[.val (.ref a), .val (.int (0 : Int32)), .val (.int (Int32.ofNat 16))] [] := H1.ifF d_cor0_1 (XT.i0_ne_f rfl)
  have H3 : Hr x b_cor0 Z EL1 0 0 h0 [] 5 #[.val (.ref a), .val (.int (0 : Int32)), .val (.int (Int32.ofNat 16))] [.int (Int32.ofNat 16)] := H2.iloadN d_cor0_4
  have H4 : Hr x b_cor0 Z EL1 0 0 h0 [] 6 #[.val (.ref a), .val (.int (0 : Int32)), .val (.int (Int32.ofNat 16))] [.ref a, .int (Int32.ofNat 16)] := H3.aloadN d_cor0_5
  have H5 : Hr x b_cor0 Z EL1 0 0 h0 [] 7 #[.val (.ref a), .val (.int (0 : Int32)), .val (.int (Int32.ofNat 16))] [.int (Int32.ofNat 16), .int (Int32.ofNat 16)] := H4.arraylength Fa d_cor0_6 (hn := (by rw [h16]))
  have H6 : Hr x b_cor0 Z EL1 0 0 h0 [] 17 #[.val (.ref a), .val (.int (0 : Int32)), .val (.int (Int32.ofNat 16))] [] := H5.icmpT d_cor0_7 (XT.ii_eq_t rfl)
  have H7 : Hr x b_cor0 Z EL1 0 0 h0 [] 18 #[.val (.ref a), .val (.int (0 : Int32)), .val (.int (Int32.ofNat 16))] [.ref a] := H6.aloadN d_cor0_17
  obtain ⟨cl, Ac, rl, -⟩ := id Fa
  have lcl : cl.slots.size = 16 := by rw [← h16, ← rl]; simp
  obtain ⟨h1, E1, ⟨Fu, Xu⟩, H8⟩ := H7.clone (cap := 16) (Wr := 0) (w264 hw) (w265 hw) (w269 hw) (w267 hw) (w268 hw) (w270 hw) Ac Xa (fitC_of Ac (by rw [rl]; exact bv)) d_cor0_18 (by omega) (by omega)
  obtain ⟨u, g_u⟩ : ∃ z, z = h0.size := ⟨_, rfl⟩
  rw [← g_u] at Fu Xu H8
  have H8 : Hr x b_cor0 Z EL1 1 16 h1 [u] 21 #[.val (.ref a), .val (.int (0 : Int32)), .val (.int (Int32.ofNat 16))] [.ref u] := H8
  have H9 : Hr x b_cor0 Z EL1 1 16 h1 [u] 24 #[.val (.ref a), .val (.int (0 : Int32)), .val (.int (Int32.ofNat 16))] [.ref u] := H8.cast (w271 hw) (Ins.of_exa Xu (w272 hw)) d_cor0_21
  rw [rl] at Fu
  exact H9.finA d_cor0_24 ⟨u, rfl, by omega, rfl, Fu⟩ (sub1 (by simp))
def b_siv0 : Bx := (({ frames := 2, cells := 1, slots := 16, locals := 31 } : Room), (⟨"java/lang/String", "<init>", "(Ljava/lang/AbstractStringBuilder;Ljava/lang/Void;)V"⟩ : MethodName), jdk_42_method_150_code, 5, (Option.none : Option Jvm.ClassFile.FieldType))
theorem ef_siv0 (q s : Addr) (mI : MethodId) : entryFrame mI #[.ref q, .ref s, .null] 5 = mkF mI 0 #[.val (.ref q), .val (.ref s), .val (.null), .unset, .unset] [] := by first | (simp [entryFrame, mkF, argsToLocals, Value.category]; done) | rfl
theorem pd_siv0 : parseMethodDescriptor "(Ljava/lang/AbstractStringBuilder;Ljava/lang/Void;)V" = some ⟨[(.object "java/lang/AbstractStringBuilder"), (.object "java/lang/Void")], none⟩ := by decide +kernel
set_option maxRecDepth 65536 in
set_option maxHeartbeats 4000000 in
theorem ct_siv0 {a0 : Array Value} {Z : State} (hw : ∀ d ∈ tables_1, d.before a0 Z = true) (l : Launch) (nar kn : Bool) (hnr : nar = false) (h0 : Heap) (q s t : Addr) (bs : List Int32) (Eq : Exa Z h0 q "java/lang/String") (Fc : Fld Z h0 q "java/lang/String" "coder" "B" (.int 0)) (Fv : Fld Z h0 q "java/lang/String" "value" "[B" .null) (F : Sbd Z h0 s t bs 0) (Xt : Exa Z h0 t "[B") (bb : BL bs) (h16 : bs.length = 16) (cz : Int32) (O : Sta Z Z.heap "java/lang/String" "COMPACT_STRINGS" "Z" (.int cz)) (hcz : ¬ cz = 0) :
    Ct l Z EL1 (⟨"java/lang/String", "<init>", "(Ljava/lang/AbstractStringBuilder;Ljava/lang/Void;)V"⟩ : MethodName) jdk_42_method_150_code 5 (Option.none : Option Jvm.ClassFile.FieldType) ({ frames := 2, cells := 1, slots := 16, locals := 31 } : Room) #[.ref q, .ref s, .null] h0 [q] nar kn (fun v h sn => v = none ∧ sn = [] ∧ ∃ u, Str Z h q u bs) := by
  refine Ct.intro (plainFor_of_name pn_java_lang_String) (ew hw) (ef_siv0 q s) ?_
  intro x hl hn0 hkn hsf hh H0
  have hnar : x.nar = false := hn0.trans hnr
  have H0 : Hr x b_siv0 Z EL1 0 0 h0 [q] 0 #[.val (.ref q), .val (.ref s), .val (.null), .unset, .unset] [] := H0
  have slne := slot_ne (a0 := a0) (C := "java/lang/String") (n := "value") (n' := "coder") (Or.inr (w16 hw)) (Or.inr (w17 hw)) (by decide) (t := .array .byte) (t' := .byte) (by decide) (by decide)
  have eb : (bs ++ List.replicate 0 0).map Value.int = bs.map Value.int := by simp
  have H1 : Hr x b_siv0 Z EL1 0 0 h0 [q] 1 #[.val (.ref q), .val (.ref s), .val (.null), .unset, .unset] [.ref q] := H0.aloadN d_siv0_0
  have H2 : Hr x b_siv0 Z EL1 0 0 h0 [q] 4 #[.val (.ref q), .val (.ref s), .val (.null), .unset, .unset] [] := H1.initO (Wr := 0) (w11 hw) (w12 hw) (w13 hw) d_siv0_1 (hf := by first | decide | (simp [b_siv0, Bx.R]; done) | (simp [b_siv0, Bx.R]; omega)) (hl := by first | decide | (simp [b_siv0, Bx.R]; done) | (simp [b_siv0, Bx.R]; omega))
  have H3 : Hr x b_siv0 Z EL1 0 0 h0 [q] 5 #[.val (.ref q), .val (.ref s), .val (.null), .unset, .unset] [.ref s] := H2.aloadN d_siv0_4
  obtain ⟨_, h1, _, ⟨rfl, rfl, e1⟩, K1, H4⟩ := H3.callV (argsL := []) (rest := []) (Wr := 0) (a := s) (ct_gval hw x.l x.nar x.kn hnar h0 s t bs 0 F) sub0 F.1 (w107 hw) (w108 hw) (w110 hw) (w110 hw) (w109 hw) (w38 hw) (w111 hw) d_siv0_5 pd_gval rfl (hf := by first | decide | (simp [b_siv0, Bx.R]; done) | (simp [b_siv0, Bx.R]; omega)) (hl := by first | decide | (simp [b_siv0, Bx.R]; done) | (simp [b_siv0, Bx.R]; omega)) (hc := by first | decide | (simp [b_siv0, Bx.R]; done) | (simp [b_siv0, Bx.R]; omega)) (hs := by first | decide | (simp [b_siv0, Bx.R]; done) | (simp [b_siv0, Bx.R]; omega))
  rw [e1] at H4
  have H4 : Hr x b_siv0 Z EL1 0 0 h0 [q] 8 #[.val (.ref q), .val (.ref s), .val (.null), .unset, .unset] [.ref t] := H4
  have H5 : Hr x b_siv0 Z EL1 0 0 h0 [q] 9 #[.val (.ref q), .val (.ref s), .val (.null), .val (.ref t), .unset] [] := H4.astoreN d_siv0_8
  have H6 : Hr x b_siv0 Z EL1 0 0 h0 [q] 10 #[.val (.ref q), .val (.ref s), .val (.null), .val (.ref t), .unset] [.ref s] := H5.aloadN d_siv0_9
  obtain ⟨_, h2, _, ⟨rfl, rfl, e2⟩, K2, H7⟩ := H6.callV (argsL := []) (rest := []) (Wr := 0) (a := s) (ct_blen hw x.l x.nar x.kn hnar h0 s t bs 0 F) sub0 F.1 (w112 hw) (w113 hw) (w73 hw) (w115 hw) (w116 hw) (w30 hw) (w117 hw) d_siv0_10 pd_blen rfl (hf := by first | decide | (simp [b_siv0, Bx.R]; done) | (simp [b_siv0, Bx.R]; omega)) (hl := by first | decide | (simp [b_siv0, Bx.R]; done) | (simp [b_siv0, Bx.R]; omega)) (hc := by first | decide | (simp [b_siv0, Bx.R]; done) | (simp [b_siv0, Bx.R]; omega)) (hs := by first | decide | (simp [b_siv0, Bx.R]; done) | (simp [b_siv0, Bx.R]; omega))
  rw [e2] at H7
  have H7 : Hr x b_siv0 Z EL1 0 0 h0 [q] 13 #[.val (.ref q), .val (.ref s), .val (.null), .val (.ref t), .unset] [.int (Int32.ofNat bs.length)] := H7
  have H8 : Hr x b_siv0 Z EL1 0 0 h0 [q] 15 #[.val (.ref q), .val (.ref s), .val (.null), .val (.ref t), .val (.int (Int32.ofNat bs.length))] [] := H7.istore d_siv0_13
  have H9 : Hr x b_siv0 Z EL1 0 0 h0 [q] 16 #[.val (.ref q), .val (.ref s), .val (.null), .val (.ref t), .val (.int (Int32.ofNat bs.length))] [.ref s] := H8.aloadN d_siv0_15
  obtain ⟨_, h3, _, ⟨rfl, rfl, e3⟩, K3, H10⟩ := H9.callV (argsL := []) (rest := []) (Wr := 0) (a := s) (ct_ail1 hw x.l x.nar x.kn hnar h0 s t bs 0 F cz O hcz) sub0 F.1 (w120 hw) (w121 hw) (w123 hw) (w123 hw) (w122 hw) (w38 hw) (w124 hw) d_siv0_16 pd_ail1 rfl (hf := by first | decide | (simp [b_siv0, Bx.R]; done) | (simp [b_siv0, Bx.R]; omega)) (hl := by first | decide | (simp [b_siv0, Bx.R]; done) | (simp [b_siv0, Bx.R]; omega)) (hc := by first | decide | (simp [b_siv0, Bx.R]; done) | (simp [b_siv0, Bx.R]; omega)) (hs := by first | decide | (simp [b_siv0, Bx.R]; done) | (simp [b_siv0, Bx.R]; omega))
  rw [e3] at H10
  have H10 : Hr x b_siv0 Z EL1 0 0 h0 [q] 19 #[.val (.ref q), .val (.ref s), .val (.null), .val (.ref t), .val (.int (Int32.ofNat bs.length))] [.int (1 : Int32)] := H10
  have H11 : Hr x b_siv0 Z EL1 0 0 h0 [q] 22 #[.val (.ref q), .val (.ref s), .val (.null), .val (.ref t), .val (.int (Int32.ofNat bs.length))] [] := H10.ifF d_siv0_19 (XT.i0_eq_f (by decide))
  have H12 : Hr x b_siv0 Z EL1 0 0 h0 [q] 23 #[.val (.ref q), .val (.ref s), .val (.null), .val (.ref t), .val (.int (Int32.ofNat bs.length))] [.ref q] := H11.aloadN d_siv0_22
  have H13 : Hr x b_siv0 Z EL1 0 0 h0 [q] 24 #[.val (.ref q), .val (.ref s), .val (.null), .val (.ref t), .val (.int (Int32.ofNat bs.length))] [.int (0 : Int32), .ref q] := H12.iconst d_siv0_23
  obtain ⟨h4, W4, H14⟩ := H13.putF (by simp) (w21 hw) Fc Eq (Or.inr ⟨(w17 hw), rfl, rfl⟩) (w1 hw) d_siv0_24 (ty := .byte)
  have H14 : Hr x b_siv0 Z EL1 0 0 h4 [q] 27 #[.val (.ref q), .val (.ref s), .val (.null), .val (.ref t), .val (.int (Int32.ofNat bs.length))] [] := H14
  have hqt : t ≠ q := Ne.symm (exa_neAr Eq F.2.2.2.2 (w1 hw))
  have Ft := F.2.2.2.2
  rw [eb] at Ft
  have H15 : Hr x b_siv0 Z EL1 0 0 h4 [q] 28 #[.val (.ref q), .val (.ref s), .val (.null), .val (.ref t), .val (.int (Int32.ofNat bs.length))] [.ref q] := H14.aloadN d_siv0_27
  have H16 : Hr x b_siv0 Z EL1 0 0 h4 [q] 29 #[.val (.ref q), .val (.ref s), .val (.null), .val (.ref t), .val (.int (Int32.ofNat bs.length))] [.ref t, .ref q] := H15.aloadN d_siv0_28
  have H17 : Hr x b_siv0 Z EL1 0 0 h4 [q] 30 #[.val (.ref q), .val (.ref s), .val (.null), .val (.ref t), .val (.int (Int32.ofNat bs.length))] [.int (0 : Int32), .ref t, .ref q] := H16.iconst d_siv0_29
  have H18 : Hr x b_siv0 Z EL1 0 0 h4 [q] 32 #[.val (.ref q), .val (.ref s), .val (.null), .val (.ref t), .val (.int (Int32.ofNat bs.length))] [.int (Int32.ofNat bs.length), .int (0 : Int32), .ref t, .ref q] := H17.iload d_siv0_30
  have H18 : Hr x b_siv0 Z EL1 0 0 h4 [q] 32 #[.val (.ref q), .val (.ref s), .val (.null), .val (.ref t), .val (.int (Int32.ofNat 16))] [.int (Int32.ofNat 16), .int (0 : Int32), .ref t, .ref q] := by have q_ := H18; rw [h16] at q_; exact q_
  obtain ⟨_, h5, _, ⟨u, rfl, hu, rfl, Fu⟩, K5, H19⟩ := H18.callS (argsL := [.ref t, .int (0 : Int32), .int (Int32.ofNat 16)]) (rest := [.ref q]) (Wr := 1) (ct_cor0 hw x.l x.nar x.kn hnar h4 t _ (Ft.other W4 hqt) (Xt.wr W4) bb.vals (by simp [h16])) sub0 (w125 hw) (w126 hw) (w127 hw) (w128 hw) d_siv0_32 pd_cor0 rfl (hf := by first | decide | (simp [b_siv0, Bx.R]; done) | (simp [b_siv0, Bx.R]; omega)) (hl := by first | decide | (simp [b_siv0, Bx.R]; done) | (simp [b_siv0, Bx.R]; omega)) (hc := by first | decide | (simp [b_siv0, Bx.R]; done) | (simp [b_siv0, Bx.R]; omega)) (hs := by first | decide | (simp [b_siv0, Bx.R]; done) | (simp [b_siv0, Bx.R]; omega))
  have H19 : Hr x b_siv0 Z EL1 1 16 h5 [u, q] 35 #[.val (.ref q), .val (.ref s), .val (.null), .val (.ref t), .val (.int (Int32.ofNat 16))] [.ref u, .ref q] := H19
  have hl4 := exa_lt (Eq.wr W4)
  obtain ⟨h6, W6, H20⟩ := H19.putF (by simp) (w20 hw) ((Fv.other W4 (Or.inr slne)).keep K5 nin0) ((Eq.wr W4).keep K5) (Or.inr ⟨(w16 hw), rfl, rfl⟩) (w1 hw) d_siv0_35 (ty := (.array .byte))
  have H20 : Hr x b_siv0 Z EL1 1 16 h6 [u, q] 38 #[.val (.ref q), .val (.ref s), .val (.null), .val (.ref t), .val (.int (Int32.ofNat 16))] [] := H20
  have H21 : Hr x b_siv0 Z EL1 1 16 h6 [u, q] 97 #[.val (.ref q), .val (.ref s), .val (.null), .val (.ref t), .val (.int (Int32.ofNat 16))] [] := H20.goto d_siv0_38
  exact H21.finN d_siv0_97 rfl (by decide) (by decide) sub0 ⟨rfl, rfl, u, ((Eq.wr W4).keep K5).wr W6, ((Fld.same W4 Fc).keep K5 nin0).other W6 (Or.inr (Ne.symm slne)), Fld.same W6 ((Fv.other W4 (Or.inr slne)).keep K5 nin0), Fu.other W6 (neN (by omega))⟩
def b_sis0 : Bx := (({ frames := 3, cells := 1, slots := 16, locals := 47 } : Room), (⟨"java/lang/String", "<init>", "(Ljava/lang/StringBuilder;)V"⟩ : MethodName), jdk_42_method_53_code, 2, (Option.none : Option Jvm.ClassFile.FieldType))
theorem ef_sis0 (q s : Addr) (mI : MethodId) : entryFrame mI #[.ref q, .ref s] 2 = mkF mI 0 #[.val (.ref q), .val (.ref s)] [] := by first | (simp [entryFrame, mkF, argsToLocals, Value.category]; done) | rfl
theorem pd_sis0 : parseMethodDescriptor "(Ljava/lang/StringBuilder;)V" = some ⟨[(.object "java/lang/StringBuilder")], none⟩ := by decide +kernel
set_option maxRecDepth 65536 in
set_option maxHeartbeats 4000000 in
theorem ct_sis0 {a0 : Array Value} {Z : State} (hw : ∀ d ∈ tables_1, d.before a0 Z = true) (l : Launch) (nar kn : Bool) (hnr : nar = false) (h0 : Heap) (q s t : Addr) (bs : List Int32) (Eq : Exa Z h0 q "java/lang/String") (Fc : Fld Z h0 q "java/lang/String" "coder" "B" (.int 0)) (Fv : Fld Z h0 q "java/lang/String" "value" "[B" .null) (F : Sbd Z h0 s t bs 0) (Xt : Exa Z h0 t "[B") (bb : BL bs) (h16 : bs.length = 16) (cz : Int32) (O : Sta Z Z.heap "java/lang/String" "COMPACT_STRINGS" "Z" (.int cz)) (hcz : ¬ cz = 0) :
    Ct l Z EL1 (⟨"java/lang/String", "<init>", "(Ljava/lang/StringBuilder;)V"⟩ : MethodName) jdk_42_method_53_code 2 (Option.none : Option Jvm.ClassFile.FieldType) ({ frames := 3, cells := 1, slots := 16, locals := 47 } : Room) #[.ref q, .ref s] h0 [q] nar kn (fun v h sn => v = none ∧ sn = [] ∧ ∃ u, Str Z h q u bs) := by
  refine Ct.intro (plainFor_of_name pn_java_lang_String) (ew hw) (ef_sis0 q s) ?_
  intro x hl hn0 hkn hsf hh H0
  have hnar : x.nar = false := hn0.trans hnr
  have H0 : Hr x b_sis0 Z EL1 0 0 h0 [q] 0 #[.val (.ref q), .val (.ref s)] [] := H0
  have H1 : Hr x b_sis0 Z EL1 0 0 h0 [q] 1 #[.val (.ref q), .val (.ref s)] [.ref q] := H0.aloadN d_sis0_0
  have H2 : Hr x b_sis0 Z EL1 0 0 h0 [q] 2 #[.val (.ref q), .val (.ref s)] [.ref s, .ref q] := H1.aloadN d_sis0_1
  have H3 : Hr x b_sis0 Z EL1 0 0 h0 [q] 3 #[.val (.ref q), .val (.ref s)] [.null, .ref s, .ref q] := H2.aconstNull d_sis0_2
  obtain ⟨_, h1, _, ⟨rfl, rfl, u, Fs⟩, K1, H4⟩ := H3.callI (argsL := [.ref s, .null]) (rest := []) (Wr := 0) (a := q) (ct_siv0 hw x.l x.nar x.kn hnar h0 q s t bs Eq Fc Fv F Xt bb h16 cz O hcz) (sub1 (by simp)) (w104 hw) (w105 hw) (w2 hw) (w106 hw) d_sis0_3 pd_siv0 rfl (hf := by first | decide | (simp [b_sis0, Bx.R]; done) | (simp [b_sis0, Bx.R]; omega)) (hl := by first | decide | (simp [b_sis0, Bx.R]; done) | (simp [b_sis0, Bx.R]; omega)) (hc := by first | decide | (simp [b_sis0, Bx.R]; done) | (simp [b_sis0, Bx.R]; omega)) (hs := by first | decide | (simp [b_sis0, Bx.R]; done) | (simp [b_sis0, Bx.R]; omega))
  have H4 : Hr x b_sis0 Z EL1 1 16 h1 [q] 6 #[.val (.ref q), .val (.ref s)] [] := H4
  exact H4.finN d_sis0_6 rfl (by decide) (by decide) sub0 ⟨rfl, rfl, u, Fs⟩
def b_tst0 : Bx := (({ frames := 4, cells := 2, slots := 20, locals := 61 } : Room), (⟨"java/lang/StringBuilder", "toString", "()Ljava/lang/String;"⟩ : MethodName), jdk_67_method_42_code, 1, (Option.some (Jvm.ClassFile.FieldType.object "java/lang/String")))
theorem ef_tst0 (s : Addr) (mI : MethodId) : entryFrame mI #[.ref s] 1 = mkF mI 0 #[.val (.ref s)] [] := by first | (simp [entryFrame, mkF, argsToLocals, Value.category]; done) | rfl
theorem pd_tst0 : parseMethodDescriptor "()Ljava/lang/String;" = some ⟨[], some (.object "java/lang/String")⟩ := by decide +kernel
set_option maxRecDepth 65536 in
set_option maxHeartbeats 4000000 in
theorem ct_tst0 {a0 : Array Value} {Z : State} (hw : ∀ d ∈ tables_1, d.before a0 Z = true) (l : Launch) (nar kn : Bool) (hnr : nar = false) (h0 : Heap) (s t : Addr) (bs : List Int32) (F : Sbd Z h0 s t bs 0) (Xt : Exa Z h0 t "[B") (bb : BL bs) (h16 : bs.length = 16) (cz : Int32) (O : Sta Z Z.heap "java/lang/String" "COMPACT_STRINGS" "Z" (.int cz)) (hcz : ¬ cz = 0) :
    Ct l Z EL1 (⟨"java/lang/StringBuilder", "toString", "()Ljava/lang/String;"⟩ : MethodName) jdk_67_method_42_code 1 (Option.some (Jvm.ClassFile.FieldType.object "java/lang/String")) ({ frames := 4, cells := 2, slots := 20, locals := 61 } : Room) #[.ref s] h0 [] nar kn (fun v h sn => ∃ q u, v = some (.ref q) ∧ sn = [] ∧ Str Z h q u bs) := by
  refine Ct.intro (plainFor_of_name pn_java_lang_StringBuilder) (ew hw) (ef_tst0 s) ?_
  intro x hl hn0 hkn hsf hh H0
  have hnar : x.nar = false := hn0.trans hnr
  have H0 : Hr x b_tst0 Z EL1 0 0 h0 [] 0 #[.val (.ref s)] [] := H0
  obtain ⟨h1, E1, ⟨X1, D1, U1⟩, H1⟩ := H0.new (w100 hw) (w1 hw) (w2 hw) d_tst0_0 (by first | decide | (simp [b_tst0, Bx.R]; done) | (simp [b_tst0, Bx.R]; omega)) (by first | decide | (simp [b_tst0, Bx.R]; done) | (simp [b_tst0, Bx.R]; omega))
  obtain ⟨q, g_q⟩ : ∃ z, z = h0.size := ⟨_, rfl⟩
  rw [← g_q] at X1 D1 U1 H1
  have H1 : Hr x b_tst0 Z EL1 1 4 h1 [q] 3 #[.val (.ref s)] [.ref q] := H1
  have H2 : Hr x b_tst0 Z EL1 1 4 h1 [q] 4 #[.val (.ref s)] [.ref q, .ref q] := H1.dup d_tst0_3
  have H3 : Hr x b_tst0 Z EL1 1 4 h1 [q] 5 #[.val (.ref s)] [.ref s, .ref q, .ref q] := H2.aloadN d_tst0_4
  have Fcq : Fld Z h1 q "java/lang/String" "coder" "B" (.int 0) := D1 (Or.inr (w17 hw)) (ty := .byte) (by decide)
  have Fvq : Fld Z h1 q "java/lang/String" "value" "[B" .null := D1 (Or.inr (w16 hw)) (ty := .array .byte) (by decide)
  obtain ⟨_, h2, _, ⟨rfl, rfl, u, Fs⟩, K2, H4⟩ := H3.callI (argsL := [.ref s]) (rest := [.ref q]) (Wr := 1) (a := q) (ct_sis0 hw x.l x.nar x.kn hnar h1 q s t bs X1 Fcq Fvq (F.ext E1) (Xt.ext E1) bb h16 cz O hcz) (sub1 (by simp)) (w101 hw) (w102 hw) (w2 hw) (w103 hw) d_tst0_5 pd_sis0 rfl (hf := by first | decide | (simp [b_tst0, Bx.R]; done) | (simp [b_tst0, Bx.R]; omega)) (hl := by first | decide | (simp [b_tst0, Bx.R]; done) | (simp [b_tst0, Bx.R]; omega)) (hc := by first | decide | (simp [b_tst0, Bx.R]; done) | (simp [b_tst0, Bx.R]; omega)) (hs := by first | decide | (simp [b_tst0, Bx.R]; done) | (simp [b_tst0, Bx.R]; omega))
  have H4 : Hr x b_tst0 Z EL1 2 20 h2 [q] 8 #[.val (.ref s)] [.ref q] := H4
  exact H4.finA d_tst0_8 ⟨q, u, rfl, rfl, Fs⟩ sub0
theorem exW {a0 : Array Value} {Z : State} (hw : ∀ d ∈ tables_1, d.before a0 Z = true) : ∀ d ∈ Jvm.Free.Exc.excAtoms IEN, d ≠ lackW → d.before a0 Z = true := fun d hd hne => by
  simp only [Jvm.Free.Exc.excAtoms, Bundle.throwableAtoms, List.cons_append, List.nil_append, List.mem_cons, List.not_mem_nil, or_false] at hd
  rcases hd with rfl | rfl | rfl | rfl | rfl | rfl | rfl | rfl | rfl | rfl | rfl | rfl | rfl | rfl | rfl | rfl | rfl | rfl | rfl | rfl | rfl | rfl | rfl | rfl | rfl | rfl | rfl | rfl | rfl | rfl | rfl | rfl | rfl | rfl | rfl | rfl | rfl | rfl
  · exact (w152 hw)
  · exact (w170 hw)
  · exact (w165 hw)
  · exact (w171 hw)
  · exact (w172 hw)
  · exact (w173 hw)
  · exact (w174 hw)
  · exact (w175 hw)
  · exact (w12 hw)
  · exact (w13 hw)
  · exact (w154 hw)
  · exact (w163 hw)
  · exact (w176 hw)
  · exact (w155 hw)
  · exact (w177 hw)
  · exact (w158 hw)
  · exact (w178 hw)
  · exact (w161 hw)
  · exact absurd rfl hne
  · exact (w157 hw)
  · exact (w183 hw)
  · exact (w160 hw)
  · exact (w184 hw)
  · exact (w179 hw)
  · exact (w164 hw)
  · exact (w185 hw)
  · exact (w166 hw)
  · exact (w156 hw)
  · exact (w159 hw)
  · exact (w162 hw)
  · exact (w186 hw)
  · exact (w181 hw)
  · exact (w182 hw)
  · exact (w187 hw)
  · exact (w167 hw)
  · exact (w168 hw)
  · exact (w169 hw)
  · exact (w188 hw)
def b_tini : Bx := (({ frames := 3, cells := 1, slots := 2752, locals := 42 } : Room), (⟨"java/lang/Throwable", "<init>", "(Ljava/lang/String;)V"⟩ : MethodName), jdk_78_method_2_code, 2, (Option.none : Option Jvm.ClassFile.FieldType))
theorem ef_tini (s a : Addr) (mI : MethodId) : entryFrame mI #[.ref s, .ref a] 2 = mkF mI 0 #[.val (.ref s), .val (.ref a)] [] := by first | (simp [entryFrame, mkF, argsToLocals, Value.category]; done) | rfl
theorem pn_java_lang_Throwable : plainName "java/lang/Throwable" = true := by first | (simp [plainName, overriddenIn]; done) | decide +kernel
theorem pd_tini : parseMethodDescriptor "(Ljava/lang/String;)V" = some ⟨[(.object "java/lang/String")], none⟩ := by decide +kernel
set_option maxRecDepth 65536 in
set_option maxHeartbeats 4000000 in
theorem ct_tini {a0 : Array Value} {Z : State} (hw : ∀ d ∈ tables_1, d.before a0 Z = true) (l : Launch) (nar kn : Bool) (hnr : nar = false) (h0 : Heap) (hkn0 : kn = true) (hlt : l.stackTraces = true) (s a : Addr) (Es : Exa Z h0 s IEN) (Ns : Unt h0 s) (F0 : Fld Z h0 s "java/lang/Throwable" "cause" "Ljava/lang/Throwable;" (.null)) (F1 : Fld Z h0 s "java/lang/Throwable" "stackTrace" "[Ljava/lang/StackTraceElement;" (.null)) (F2 : Fld Z h0 s "java/lang/Throwable" "suppressedExceptions" "Ljava/util/List;" (.null)) (F3 : Fld Z h0 s "java/lang/Throwable" "backtrace" "Ljava/lang/Object;" (.null)) (F4 : Fld Z h0 s "java/lang/Throwable" "detailMessage" "Ljava/lang/String;" (.null)) (us ul : Value) (rs : us.isRef = true) (rl : ul.isRef = true) (S1 : Sta Z Z.heap "java/lang/Throwable" "UNASSIGNED_STACK" "[Ljava/lang/StackTraceElement;" us) (S2 : Sta Z Z.heap "java/lang/Throwable" "SUPPRESSED_SENTINEL" "Ljava/util/List;" ul) :
    Ct l Z EL1 (⟨"java/lang/Throwable", "<init>", "(Ljava/lang/String;)V"⟩ : MethodName) jdk_78_method_2_code 2 (Option.none : Option Jvm.ClassFile.FieldType) ({ frames := 3, cells := 1, slots := 2752, locals := 42 } : Room) #[.ref s, .ref a] h0 [s] nar kn (fun v h sn => v = none ∧ sn = [] ∧ Exa Z h s IEN ∧ Fld Z h s "java/lang/Throwable" "detailMessage" "Ljava/lang/String;" (.ref a)) := by
  refine Ct.introL (plainFor_of_name pn_java_lang_Throwable) (ew hw) (ef_tini s a) ?_
  intro x hl hn0 hkn hsf hh H0
  have hnar : x.nar = false := hn0.trans hnr
  have H0 : Hl x b_tini Z EL1 h0 [s] 0 #[.val (.ref s), .val (.ref a)] [] := H0
  have n01 := slot_ne (a0 := a0) (C := "com/example/rungway/rungway/framework/InstallException") (O := "java/lang/Throwable") (O' := "java/lang/Throwable") (n := "cause") (n' := "stackTrace") (Or.inl (w156 hw)) (Or.inl (w159 hw)) (by decide) (t := .object "java/lang/Throwable") (t' := .array (.object "java/lang/StackTraceElement")) (by decide) (by decide)
  have n02 := slot_ne (a0 := a0) (C := "com/example/rungway/rungway/framework/InstallException") (O := "java/lang/Throwable") (O' := "java/lang/Throwable") (n := "cause") (n' := "suppressedExceptions") (Or.inl (w156 hw)) (Or.inl (w162 hw)) (by decide) (t := .object "java/lang/Throwable") (t' := .object "java/util/List") (by decide) (by decide)
  have n03 := slot_ne (a0 := a0) (C := "com/example/rungway/rungway/framework/InstallException") (O := "java/lang/Throwable") (O' := "java/lang/Throwable") (n := "cause") (n' := "backtrace") (Or.inl (w156 hw)) (Or.inl (w187 hw)) (by decide) (t := .object "java/lang/Throwable") (t' := .object "java/lang/Object") (by decide) (by decide)
  have n04 := slot_ne (a0 := a0) (C := "com/example/rungway/rungway/framework/InstallException") (O := "java/lang/Throwable") (O' := "java/lang/Throwable") (n := "cause") (n' := "detailMessage") (Or.inl (w156 hw)) (Or.inl (w186 hw)) (by decide) (t := .object "java/lang/Throwable") (t' := .object "java/lang/String") (by decide) (by decide)
  have n12 := slot_ne (a0 := a0) (C := "com/example/rungway/rungway/framework/InstallException") (O := "java/lang/Throwable") (O' := "java/lang/Throwable") (n := "stackTrace") (n' := "suppressedExceptions") (Or.inl (w159 hw)) (Or.inl (w162 hw)) (by decide) (t := .array (.object "java/lang/StackTraceElement")) (t' := .object "java/util/List") (by decide) (by decide)
  have n13 := slot_ne (a0 := a0) (C := "com/example/rungway/rungway/framework/InstallException") (O := "java/lang/Throwable") (O' := "java/lang/Throwable") (n := "stackTrace") (n' := "backtrace") (Or.inl (w159 hw)) (Or.inl (w187 hw)) (by decide) (t := .array (.object "java/lang/StackTraceElement")) (t' := .object "java/lang/Object") (by decide) (by decide)
  have n14 := slot_ne (a0 := a0) (C := "com/example/rungway/rungway/framework/InstallException") (O := "java/lang/Throwable") (O' := "java/lang/Throwable") (n := "stackTrace") (n' := "detailMessage") (Or.inl (w159 hw)) (Or.inl (w186 hw)) (by decide) (t := .array (.object "java/lang/StackTraceElement")) (t' := .object "java/lang/String") (by decide) (by decide)
  have n23 := slot_ne (a0 := a0) (C := "com/example/rungway/rungway/framework/InstallException") (O := "java/lang/Throwable") (O' := "java/lang/Throwable") (n := "suppressedExceptions") (n' := "backtrace") (Or.inl (w162 hw)) (Or.inl (w187 hw)) (by decide) (t := .object "java/util/List") (t' := .object "java/lang/Object") (by decide) (by decide)
  have n24 := slot_ne (a0 := a0) (C := "com/example/rungway/rungway/framework/InstallException") (O := "java/lang/Throwable") (O' := "java/lang/Throwable") (n := "suppressedExceptions") (n' := "detailMessage") (Or.inl (w162 hw)) (Or.inl (w186 hw)) (by decide) (t := .object "java/util/List") (t' := .object "java/lang/String") (by decide) (by decide)
  have n34 := slot_ne (a0 := a0) (C := "com/example/rungway/rungway/framework/InstallException") (O := "java/lang/Throwable") (O' := "java/lang/Throwable") (n := "backtrace") (n' := "detailMessage") (Or.inl (w187 hw)) (Or.inl (w186 hw)) (by decide) (t := .object "java/lang/Object") (t' := .object "java/lang/String") (by decide) (by decide)
  have hs0 : s ∈ x.sf0 := by rw [hsf]; exact List.mem_singleton.mpr rfl
  have O0 := H0.hr.old
  have H1 : Hl x b_tini Z EL1 h0 [s] 1 #[.val (.ref s), .val (.ref a)] [.ref s] := H0.aloadN d_tini_0
  have H2 : Hl x b_tini Z EL1 h0 [s] 4 #[.val (.ref s), .val (.ref a)] [] := H1.initO (w154 hw) (w12 hw) (w13 hw) d_tini_1
  have H3 : Hl x b_tini Z EL1 h0 [s] 5 #[.val (.ref s), .val (.ref a)] [.ref s] := H2.aloadN d_tini_4
  have H4 : Hl x b_tini Z EL1 h0 [s] 6 #[.val (.ref s), .val (.ref a)] [.ref s, .ref s] := H3.aloadN d_tini_5
  obtain ⟨h1, W1_, H5⟩ := H4.putF (List.mem_singleton.mpr rfl) hs0 (w155 hw) F0 Es (w156 hw) (w27 hw) d_tini_6 (ty := .object "java/lang/Throwable") (by decide) rfl rfl
  have H5 : Hl x b_tini Z EL1 h1 [s] 9 #[.val (.ref s), .val (.ref a)] [] := H5
  have H6 : Hl x b_tini Z EL1 h1 [s] 10 #[.val (.ref s), .val (.ref a)] [.ref s] := H5.aloadN d_tini_9
  have H7 : Hl x b_tini Z EL1 h1 [s] 13 #[.val (.ref s), .val (.ref a)] [us, .ref s] := H6.getS (w157 hw) (S1.ext H6.hr.old) d_tini_10
  have nrS : narrow (.array (.object "java/lang/StackTraceElement")) us = us := narrow_isRef _ rs
  have ftS : fits (.array (.object "java/lang/StackTraceElement")) us = true := fits_refV_array _ ⟨us, rs⟩
  have nrL : narrow (.object "java/util/List") ul = ul := narrow_isRef _ rl
  have ftL : fits (.object "java/util/List") ul = true := fits_refV_object _ ⟨ul, rl⟩
  obtain ⟨h2, W2_, H8⟩ := H7.putF (List.mem_singleton.mpr rfl) hs0 (w158 hw) (F1.other W1_ (Or.inr (Ne.symm n01))) (Es.wr W1_) (w159 hw) (w27 hw) d_tini_13 (ty := .array (.object "java/lang/StackTraceElement")) (by decide) nrS ftS
  have H8 : Hl x b_tini Z EL1 h2 [s] 16 #[.val (.ref s), .val (.ref a)] [] := H8
  have H9 : Hl x b_tini Z EL1 h2 [s] 17 #[.val (.ref s), .val (.ref a)] [.ref s] := H8.aloadN d_tini_16
  have H10 : Hl x b_tini Z EL1 h2 [s] 20 #[.val (.ref s), .val (.ref a)] [ul, .ref s] := H9.getS (w160 hw) (S2.ext H9.hr.old) d_tini_17
  obtain ⟨h3, W3_, H11⟩ := H10.putF (List.mem_singleton.mpr rfl) hs0 (w161 hw) ((F2.other W1_ (Or.inr (Ne.symm n02))).other W2_ (Or.inr (Ne.symm n12))) ((Es.wr W1_).wr W2_) (w162 hw) (w27 hw) d_tini_20 (ty := .object "java/util/List") (by decide) nrL ftL
  have H11 : Hl x b_tini Z EL1 h3 [s] 23 #[.val (.ref s), .val (.ref a)] [] := H11
  have H12 : Hl x b_tini Z EL1 h3 [s] 24 #[.val (.ref s), .val (.ref a)] [.ref s] := H11.aloadN d_tini_23
  have N3 : Unt h3 s := ((Ns.wr W1_).wr W2_).wr W3_
  have B3 := ((F3.other W1_ (Or.inr (Ne.symm n03))).other W2_ (Or.inr (Ne.symm n13))).other W3_ (Or.inr (Ne.symm n23))
  have T3 := (Fld.same W2_ (F1.other W1_ (Or.inr (Ne.symm n01)))).other W3_ (Or.inr n12)
  have E3 := ((Es.wr W1_).wr W2_).wr W3_
  obtain ⟨h4, K4, E4, ⟨ov, M4⟩, H13⟩ := H12.fill (rc := IEN) (by decide) (by rw [hl]; exact hlt) (hkn.trans hkn0) (by rw [hh]; exact O0) hsf (by rw [hh, W3_.size, W2_.size, W1_.size]) (List.mem_singleton.mpr rfl) E3 N3 B3 T3 (S1.ext H12.hr.old) rs (exW hw) (w27 hw) d_tini_24 rfl rfl (by decide) (by decide) (by decide) (by decide)
  have H13 : Hr x b_tini Z EL1 1 2752 h4 [s] 27 #[.val (.ref s), .val (.ref a)] [.ref s] := H13
  have H14 : Hr x b_tini Z EL1 1 2752 h4 [s] 28 #[.val (.ref s), .val (.ref a)] [] := H13.pop d_tini_27
  have H15 : Hr x b_tini Z EL1 1 2752 h4 [s] 29 #[.val (.ref s), .val (.ref a)] [.ref s] := H14.aloadN d_tini_28
  have H16 : Hr x b_tini Z EL1 1 2752 h4 [s] 30 #[.val (.ref s), .val (.ref a)] [.ref a, .ref s] := H15.aloadN d_tini_29
  obtain ⟨h5, W5, H17⟩ := H16.putF (by simp) (w190 hw) M4 E4 (Or.inl (w186 hw)) (w27 hw) d_tini_30 (ty := (.object "java/lang/String"))
  have H17 : Hr x b_tini Z EL1 1 2752 h5 [s] 33 #[.val (.ref s), .val (.ref a)] [] := H17
  exact H17.finN d_tini_33 rfl (by decide) (by decide) sub0 ⟨rfl, rfl, E4.wr W5, Fld.same W5 M4⟩
def b_xini : Bx := (({ frames := 4, cells := 1, slots := 2752, locals := 55 } : Room), (⟨"java/lang/Exception", "<init>", "(Ljava/lang/String;)V"⟩ : MethodName), jdk_59_method_2_code, 2, (Option.none : Option Jvm.ClassFile.FieldType))
theorem ef_xini (s a : Addr) (mI : MethodId) : entryFrame mI #[.ref s, .ref a] 2 = mkF mI 0 #[.val (.ref s), .val (.ref a)] [] := by first | (simp [entryFrame, mkF, argsToLocals, Value.category]; done) | rfl
theorem pn_java_lang_Exception : plainName "java/lang/Exception" = true := by first | (simp [plainName, overriddenIn]; done) | decide +kernel
theorem pd_xini : parseMethodDescriptor "(Ljava/lang/String;)V" = some ⟨[(.object "java/lang/String")], none⟩ := by decide +kernel
set_option maxRecDepth 65536 in
set_option maxHeartbeats 4000000 in
theorem ct_xini {a0 : Array Value} {Z : State} (hw : ∀ d ∈ tables_1, d.before a0 Z = true) (l : Launch) (nar kn : Bool) (hnr : nar = false) (h0 : Heap) (hkn0 : kn = true) (hlt : l.stackTraces = true) (s a : Addr) (Es : Exa Z h0 s IEN) (Ns : Unt h0 s) (F0 : Fld Z h0 s "java/lang/Throwable" "cause" "Ljava/lang/Throwable;" (.null)) (F1 : Fld Z h0 s "java/lang/Throwable" "stackTrace" "[Ljava/lang/StackTraceElement;" (.null)) (F2 : Fld Z h0 s "java/lang/Throwable" "suppressedExceptions" "Ljava/util/List;" (.null)) (F3 : Fld Z h0 s "java/lang/Throwable" "backtrace" "Ljava/lang/Object;" (.null)) (F4 : Fld Z h0 s "java/lang/Throwable" "detailMessage" "Ljava/lang/String;" (.null)) (us ul : Value) (rs : us.isRef = true) (rl : ul.isRef = true) (S1 : Sta Z Z.heap "java/lang/Throwable" "UNASSIGNED_STACK" "[Ljava/lang/StackTraceElement;" us) (S2 : Sta Z Z.heap "java/lang/Throwable" "SUPPRESSED_SENTINEL" "Ljava/util/List;" ul) :
    Ct l Z EL1 (⟨"java/lang/Exception", "<init>", "(Ljava/lang/String;)V"⟩ : MethodName) jdk_59_method_2_code 2 (Option.none : Option Jvm.ClassFile.FieldType) ({ frames := 4, cells := 1, slots := 2752, locals := 55 } : Room) #[.ref s, .ref a] h0 [s] nar kn (fun v h sn => v = none ∧ sn = [] ∧ Exa Z h s IEN ∧ Fld Z h s "java/lang/Throwable" "detailMessage" "Ljava/lang/String;" (.ref a)) := by
  refine Ct.intro (plainFor_of_name pn_java_lang_Exception) (ew hw) (ef_xini s a) ?_
  intro x hl hn0 hkn hsf hh H0
  have hnar : x.nar = false := hn0.trans hnr
  have H0 : Hr x b_xini Z EL1 0 0 h0 [s] 0 #[.val (.ref s), .val (.ref a)] [] := H0
  have H1 : Hr x b_xini Z EL1 0 0 h0 [s] 1 #[.val (.ref s), .val (.ref a)] [.ref s] := H0.aloadN d_xini_0
  have H2 : Hr x b_xini Z EL1 0 0 h0 [s] 2 #[.val (.ref s), .val (.ref a)] [.ref a, .ref s] := H1.aloadN d_xini_1
  obtain ⟨_, h1, _, ⟨rfl, rfl, E1, M1⟩, K1, H3⟩ := H2.callI (argsL := [.ref a]) (rest := []) (Wr := 0) (a := s) (ct_tini hw x.l x.nar x.kn hnar h0 (hkn.trans hkn0) (by rw [hl]; exact hlt) s a Es Ns F0 F1 F2 F3 F4 us ul rs rl S1 S2) (sub1 (by simp)) (w148 hw) (w149 hw) (w152 hw) (w153 hw) d_xini_2 pd_tini rfl (hf := by first | decide | (simp [b_xini, Bx.R]; done) | (simp [b_xini, Bx.R]; omega)) (hl := by first | decide | (simp [b_xini, Bx.R]; done) | (simp [b_xini, Bx.R]; omega)) (hc := by first | decide | (simp [b_xini, Bx.R]; done) | (simp [b_xini, Bx.R]; omega)) (hs := by first | decide | (simp [b_xini, Bx.R]; done) | (simp [b_xini, Bx.R]; omega))
  have H3 : Hr x b_xini Z EL1 1 2752 h1 [s] 5 #[.val (.ref s), .val (.ref a)] [] := H3
  exact H3.finN d_xini_5 rfl (by decide) (by decide) sub0 ⟨rfl, rfl, E1, M1⟩
def b_iini : Bx := (({ frames := 5, cells := 1, slots := 2752, locals := 68 } : Room), (⟨"com/example/rungway/rungway/framework/InstallException", "<init>", "(Ljava/lang/String;)V"⟩ : MethodName), prog_8_method_1_code, 2, (Option.none : Option Jvm.ClassFile.FieldType))
theorem ef_iini (s a : Addr) (mI : MethodId) : entryFrame mI #[.ref s, .ref a] 2 = mkF mI 0 #[.val (.ref s), .val (.ref a)] [] := by first | (simp [entryFrame, mkF, argsToLocals, Value.category]; done) | rfl
theorem pn_com_example_rungway_rungway_framework_InstallException : plainName "com/example/rungway/rungway/framework/InstallException" = true := by first | (simp [plainName, overriddenIn]; done) | decide +kernel
theorem pd_iini : parseMethodDescriptor "(Ljava/lang/String;)V" = some ⟨[(.object "java/lang/String")], none⟩ := by decide +kernel
set_option maxRecDepth 65536 in
set_option maxHeartbeats 4000000 in
theorem ct_iini {a0 : Array Value} {Z : State} (hw : ∀ d ∈ tables_1, d.before a0 Z = true) (l : Launch) (nar kn : Bool) (hnr : nar = false) (h0 : Heap) (hkn0 : kn = true) (hlt : l.stackTraces = true) (s a : Addr) (Es : Exa Z h0 s IEN) (Ns : Unt h0 s) (F0 : Fld Z h0 s "java/lang/Throwable" "cause" "Ljava/lang/Throwable;" (.null)) (F1 : Fld Z h0 s "java/lang/Throwable" "stackTrace" "[Ljava/lang/StackTraceElement;" (.null)) (F2 : Fld Z h0 s "java/lang/Throwable" "suppressedExceptions" "Ljava/util/List;" (.null)) (F3 : Fld Z h0 s "java/lang/Throwable" "backtrace" "Ljava/lang/Object;" (.null)) (F4 : Fld Z h0 s "java/lang/Throwable" "detailMessage" "Ljava/lang/String;" (.null)) (us ul : Value) (rs : us.isRef = true) (rl : ul.isRef = true) (S1 : Sta Z Z.heap "java/lang/Throwable" "UNASSIGNED_STACK" "[Ljava/lang/StackTraceElement;" us) (S2 : Sta Z Z.heap "java/lang/Throwable" "SUPPRESSED_SENTINEL" "Ljava/util/List;" ul) :
    Ct l Z EL1 (⟨"com/example/rungway/rungway/framework/InstallException", "<init>", "(Ljava/lang/String;)V"⟩ : MethodName) prog_8_method_1_code 2 (Option.none : Option Jvm.ClassFile.FieldType) ({ frames := 5, cells := 1, slots := 2752, locals := 68 } : Room) #[.ref s, .ref a] h0 [s] nar kn (fun v h sn => v = none ∧ sn = [] ∧ Exa Z h s IEN ∧ Fld Z h s "java/lang/Throwable" "detailMessage" "Ljava/lang/String;" (.ref a)) := by
  refine Ct.intro (plainFor_of_name pn_com_example_rungway_rungway_framework_InstallException) (ew hw) (ef_iini s a) ?_
  intro x hl hn0 hkn hsf hh H0
  have hnar : x.nar = false := hn0.trans hnr
  have H0 : Hr x b_iini Z EL1 0 0 h0 [s] 0 #[.val (.ref s), .val (.ref a)] [] := H0
  have H1 : Hr x b_iini Z EL1 0 0 h0 [s] 1 #[.val (.ref s), .val (.ref a)] [.ref s] := H0.aloadN d_iini_0
  have H2 : Hr x b_iini Z EL1 0 0 h0 [s] 2 #[.val (.ref s), .val (.ref a)] [.ref a, .ref s] := H1.aloadN d_iini_1
  obtain ⟨_, h1, _, ⟨rfl, rfl, E1, M1⟩, K1, H3⟩ := H2.callI (argsL := [.ref a]) (rest := []) (Wr := 0) (a := s) (ct_xini hw x.l x.nar x.kn hnar h0 (hkn.trans hkn0) (by rw [hl]; exact hlt) s a Es Ns F0 F1 F2 F3 F4 us ul rs rl S1 S2) (sub1 (by simp)) (w143 hw) (w144 hw) (w146 hw) (w147 hw) d_iini_2 pd_xini rfl (hf := by first | decide | (simp [b_iini, Bx.R]; done) | (simp [b_iini, Bx.R]; omega)) (hl := by first | decide | (simp [b_iini, Bx.R]; done) | (simp [b_iini, Bx.R]; omega)) (hc := by first | decide | (simp [b_iini, Bx.R]; done) | (simp [b_iini, Bx.R]; omega)) (hs := by first | decide | (simp [b_iini, Bx.R]; done) | (simp [b_iini, Bx.R]; omega))
  have H3 : Hr x b_iini Z EL1 1 2752 h1 [s] 5 #[.val (.ref s), .val (.ref a)] [] := H3
  exact H3.finN d_iini_5 rfl (by decide) (by decide) sub0 ⟨rfl, rfl, E1, M1⟩
def b_invh : Bx := (({ frames := 6, cells := 9, slots := 2898, locals := 93 } : Room), (⟨"com/example/rungway/rungway/framework/InstallException", "invalidHeader", "(Ljava/lang/String;)Lcom/example/rungway/rungway/framework/InstallException;"⟩ : MethodName), prog_8_method_2_code, 1, (Option.some (Jvm.ClassFile.FieldType.object "com/example/rungway/rungway/framework/InstallException")))
theorem ef_invh (a : Addr) (mI : MethodId) : entryFrame mI #[.ref a] 1 = mkF mI 0 #[.val (.ref a)] [] := by first | (simp [entryFrame, mkF, argsToLocals, Value.category]; done) | rfl
theorem pd_invh : parseMethodDescriptor "(Ljava/lang/String;)Lcom/example/rungway/rungway/framework/InstallException;" = some ⟨[(.object "java/lang/String")], some (.object "com/example/rungway/rungway/framework/InstallException")⟩ := by decide +kernel
set_option maxRecDepth 65536 in
set_option maxHeartbeats 4000000 in
theorem ct_invh {a0 : Array Value} {Z : State} (hw : ∀ d ∈ tables_1, d.before a0 Z = true) (l : Launch) (nar kn : Bool) (hnr : nar = false) (h0 : Heap) (hkn0 : kn = true) (hlt : l.stackTraces = true) (a k : Addr) (ds : List Int32) (G : Str Z h0 a k ds) (bd : BL ds) (hd3 : ds.length ≤ 3) (us ul : Value) (rs : us.isRef = true) (rl : ul.isRef = true) (S1 : Sta Z Z.heap "java/lang/Throwable" "UNASSIGNED_STACK" "[Ljava/lang/StackTraceElement;" us) (S2 : Sta Z Z.heap "java/lang/Throwable" "SUPPRESSED_SENTINEL" "Ljava/util/List;" ul) (cz : Int32) (O : Sta Z Z.heap "java/lang/String" "COMPACT_STRINGS" "Z" (.int cz)) (hcz : ¬ cz = 0) :
    Ct l Z EL1 (⟨"com/example/rungway/rungway/framework/InstallException", "invalidHeader", "(Ljava/lang/String;)Lcom/example/rungway/rungway/framework/InstallException;"⟩ : MethodName) prog_8_method_2_code 1 (Option.some (Jvm.ClassFile.FieldType.object "com/example/rungway/rungway/framework/InstallException")) ({ frames := 6, cells := 9, slots := 2898, locals := 93 } : Room) #[.ref a] h0 [] nar kn (fun v h sn => ∃ e q u, v = some (.ref e) ∧ sn = [] ∧ Exa Z h e IEN ∧ Fld Z h e "java/lang/Throwable" "detailMessage" "Ljava/lang/String;" (.ref q) ∧ Str Z h q u (tPre ++ ds)) := by
  refine Ct.intro (plainFor_of_name pn_com_example_rungway_rungway_framework_InstallException) (ew hw) (ef_invh a) ?_
  intro x hl hn0 hkn hsf hh H0
  have hnar : x.nar = false := hn0.trans hnr
  have H0 : Hr x b_invh Z EL1 0 0 h0 [] 0 #[.val (.ref a)] [] := H0
  obtain ⟨h1, E1, ⟨X1, D1, U1⟩, H1⟩ := H0.new (w26 hw) (w27 hw) (w24 hw) d_invh_0 (by first | decide | (simp [b_invh, Bx.R]; done) | (simp [b_invh, Bx.R]; omega)) (by first | decide | (simp [b_invh, Bx.R]; done) | (simp [b_invh, Bx.R]; omega))
  obtain ⟨e, g_e⟩ : ∃ z, z = h0.size := ⟨_, rfl⟩
  rw [← g_e] at X1 D1 U1 H1
  have H1 : Hr x b_invh Z EL1 1 6 h1 [e] 3 #[.val (.ref a)] [.ref e] := H1
  have H2 : Hr x b_invh Z EL1 1 6 h1 [e] 4 #[.val (.ref a)] [.ref e, .ref e] := H1.dup d_invh_3
  have Q0 : Fld Z h1 e "java/lang/Throwable" "cause" "Ljava/lang/Throwable;" (.null) := D1 (Or.inl (w156 hw)) (ty := .object "java/lang/Throwable") (by decide)
  have Q1 : Fld Z h1 e "java/lang/Throwable" "stackTrace" "[Ljava/lang/StackTraceElement;" (.null) := D1 (Or.inl (w159 hw)) (ty := .array (.object "java/lang/StackTraceElement")) (by decide)
  have Q2 : Fld Z h1 e "java/lang/Throwable" "suppressedExceptions" "Ljava/util/List;" (.null) := D1 (Or.inl (w162 hw)) (ty := .object "java/util/List") (by decide)
  have Q3 : Fld Z h1 e "java/lang/Throwable" "backtrace" "Ljava/lang/Object;" (.null) := D1 (Or.inl (w187 hw)) (ty := .object "java/lang/Object") (by decide)
  have Q4 : Fld Z h1 e "java/lang/Throwable" "detailMessage" "Ljava/lang/String;" (.null) := D1 (Or.inl (w186 hw)) (ty := .object "java/lang/String") (by decide)
  obtain ⟨h2, E2, ⟨X2, D2, U2⟩, H3⟩ := H2.new (w28 hw) (w29 hw) (w30 hw) d_invh_4 (by first | decide | (simp [b_invh, Bx.R]; done) | (simp [b_invh, Bx.R]; omega)) (by first | decide | (simp [b_invh, Bx.R]; done) | (simp [b_invh, Bx.R]; omega))
  obtain ⟨q, g_q⟩ : ∃ z, z = h1.size := ⟨_, rfl⟩
  rw [← g_q] at X2 D2 U2 H3
  have H3 : Hr x b_invh Z EL1 2 10 h2 [q, e] 7 #[.val (.ref a)] [.ref q, .ref e, .ref e] := H3
  have H4 : Hr x b_invh Z EL1 2 10 h2 [q, e] 8 #[.val (.ref a)] [.ref q, .ref q, .ref e, .ref e] := H3.dup d_invh_7
  have T0 : Fld Z h2 q "java/lang/AbstractStringBuilder" "value" "[B" (.null) := D2 (Or.inl (w43 hw)) (ty := .array .byte) (by decide)
  have T1 : Fld Z h2 q "java/lang/AbstractStringBuilder" "coder" "B" (.int 0) := D2 (Or.inl (w45 hw)) (ty := .byte) (by decide)
  have T2 : Fld Z h2 q "java/lang/AbstractStringBuilder" "count" "I" (.int 0) := D2 (Or.inl (w69 hw)) (ty := .int) (by decide)
  obtain ⟨_, h3, _, ⟨t, rfl, rfl, ht, B3, Xt⟩, K3, H5⟩ := H4.callI (argsL := []) (rest := [.ref q, .ref e, .ref e]) (Wr := 3) (a := q) (ct_sbin hw x.l x.nar x.kn hnar h2 q X2 T0 T1 T2 cz O hcz) (sub1 (by simp)) (w31 hw) (w32 hw) (w30 hw) (w33 hw) d_invh_8 pd_sbin rfl (hf := by first | decide | (simp [b_invh, Bx.R]; done) | (simp [b_invh, Bx.R]; omega)) (hl := by first | decide | (simp [b_invh, Bx.R]; done) | (simp [b_invh, Bx.R]; omega)) (hc := by first | decide | (simp [b_invh, Bx.R]; done) | (simp [b_invh, Bx.R]; omega)) (hs := by first | decide | (simp [b_invh, Bx.R]; done) | (simp [b_invh, Bx.R]; omega))
  have H5 : Hr x b_invh Z EL1 3 26 h3 [t, q, e] 11 #[.val (.ref a)] [.ref q, .ref e, .ref e] := H5
  have hqt : @Ne Nat q t := by have := exa_lt X2; omega
  have lg := G.lt
  have lg' := G.lt'
  have z1 := E1.1
  have z2 := E2.1
  have le1 := exa_lt X1
  have G3 := ((G.ext E1).ext E2).keep K3 (ninS (neN (by omega)) nin0) (ninS (neN (by omega)) nin0)
  have heq : @Ne Nat e q := by omega
  have het : @Ne Nat e t := by omega
  obtain ⟨la, lu, h4, E4, L4, n4, H6⟩ := H5.ldcS (n := 60) (bs := tPre) (z := 15) (w46 hw) (wStr hw) (ew hw) (by decide) (by decide) (by decide) (by decide) d_invh_11 (by decide) (by decide) hnar (by first | decide | (simp [b_invh, Bx.R]; done) | (simp [b_invh, Bx.R]; omega)) (by first | decide | (simp [b_invh, Bx.R]; done) | (simp [b_invh, Bx.R]; omega))
  have H6 : Hr x b_invh Z EL1 5 90 h4 [t, q, e] 13 #[.val (.ref a)] [.ref la, .ref q, .ref e, .ref e] := H6
  obtain ⟨_, h5, _, ⟨rfl, rfl, B5⟩, K5, H7⟩ := H6.callV (argsL := [.ref la]) (rest := [.ref e, .ref e]) (Wr := 2) (a := q) (ct_sapp hw x.l x.nar x.kn hnar h4 q t la lu [] tPre 16 (B3.ext E4) L4 (by intro y hy; cases hy) (by decide) (by decide) hqt cz O hcz) (by simp) (B3.ext E4).1 (w47 hw) (w48 hw) (w50 hw) (w50 hw) (w49 hw) (w30 hw) (w51 hw) d_invh_13 pd_sapg rfl (hf := by first | decide | (simp [b_invh, Bx.R]; done) | (simp [b_invh, Bx.R]; omega)) (hl := by first | decide | (simp [b_invh, Bx.R]; done) | (simp [b_invh, Bx.R]; omega)) (hc := by first | decide | (simp [b_invh, Bx.R]; done) | (simp [b_invh, Bx.R]; omega)) (hs := by first | decide | (simp [b_invh, Bx.R]; done) | (simp [b_invh, Bx.R]; omega))
  have H7 : Hr x b_invh Z EL1 5 90 h5 [t, q, e] 16 #[.val (.ref a)] [.ref q, .ref e, .ref e] := H7
  have G5 := (G3.ext E4).keep K5 (ninS (neN (by omega)) (ninS (neN (by omega)) nin0)) (ninS (neN (by omega)) (ninS (neN (by omega)) nin0))
  have Xt5 := (Xt.ext E4).keep K5
  have b5 : BL ([] ++ tPre) := by decide
  have e15 : ([] ++ tPre).length = 15 := rfl
  have H8 : Hr x b_invh Z EL1 5 90 h5 [t, q, e] 17 #[.val (.ref a)] [.ref a, .ref q, .ref e, .ref e] := H7.aloadN d_invh_16
  have Xe5 := (((X1.ext E2).keep K3).ext E4).keep K5
  have Ue5 : Unt h5 e := Unt.keep K5 (ninS heq (ninS het nin0)) (Unt.ext E4 (Unt.keep K3 (ninS heq nin0) (Unt.ext E2 U1)))
  have R0 := (((Q0.ext E2).keep K3 (ninS heq nin0)).ext E4).keep K5 (ninS heq (ninS het nin0))
  have R1 := (((Q1.ext E2).keep K3 (ninS heq nin0)).ext E4).keep K5 (ninS heq (ninS het nin0))
  have R2 := (((Q2.ext E2).keep K3 (ninS heq nin0)).ext E4).keep K5 (ninS heq (ninS het nin0))
  have R3 := (((Q3.ext E2).keep K3 (ninS heq nin0)).ext E4).keep K5 (ninS heq (ninS het nin0))
  have R4 := (((Q4.ext E2).keep K3 (ninS heq nin0)).ext E4).keep K5 (ninS heq (ninS het nin0))
  have hlp : tPre.length = 15 := rfl
  by_cases q0 : ds.length = 0
  · have z8 := q0
    obtain ⟨_, h6, _, ⟨rfl, rfl, B6⟩, K6, H9⟩ := H8.callV (argsL := [.ref a]) (rest := [.ref e, .ref e]) (Wr := 2) (a := q) (ct_sapp hw x.l x.nar x.kn hnar h5 q t a k _ ds _ B5 G5 b5 bd (by have hlp0 : tPre.length = 15 := rfl; have := e15; omega) hqt cz O hcz) (by simp) B5.1 (w47 hw) (w48 hw) (w50 hw) (w50 hw) (w49 hw) (w30 hw) (w51 hw) d_invh_17 pd_sapg rfl (hf := by first | decide | (simp [b_invh, Bx.R]; done) | (simp [b_invh, Bx.R]; omega)) (hl := by first | decide | (simp [b_invh, Bx.R]; done) | (simp [b_invh, Bx.R]; omega)) (hc := by first | decide | (simp [b_invh, Bx.R]; done) | (simp [b_invh, Bx.R]; omega)) (hs := by first | decide | (simp [b_invh, Bx.R]; done) | (simp [b_invh, Bx.R]; omega))
    have H9 : Hr x b_invh Z EL1 5 90 h6 [t, q, e] 20 #[.val (.ref a)] [.ref q, .ref e, .ref e] := H9
    have b6 : BL ([] ++ tPre ++ ds) := BL.app b5 bd
    have hlen : ([] ++ tPre ++ ds).length ≤ 18 := by rw [List.length_append, e15]; omega
    obtain ⟨_, h7, _, ⟨y, u, rfl, rfl, S7⟩, K7, H10⟩ := H9.callV (argsL := []) (rest := [.ref e, .ref e]) (Wr := 2) (a := q) (ct_tstr hw x.l x.nar x.kn hnar h6 q t _ _ B6 b6 (by have hlp0 : tPre.length = 15 := rfl; have := e15; omega) (by omega) cz O hcz) sub0 B6.1 (w95 hw) (w96 hw) (w98 hw) (w98 hw) (w97 hw) (w30 hw) (w99 hw) d_invh_20 pd_tst0 rfl (hf := by first | (simp [b_invh, Bx.R]; done) | (simp [b_invh, Bx.R]; omega)) (hl := by first | (simp [b_invh, Bx.R]; done) | (simp [b_invh, Bx.R]; omega)) (hc := by first | (simp [b_invh, Bx.R]; done) | (simp [b_invh, Bx.R]; omega)) (hs := by first | (simp [b_invh, Bx.R]; done) | (simp [b_invh, Bx.R]; omega))
    have H10 : Hr x b_invh Z EL1 7 (90 + (4 + ([] ++ tPre ++ ds).length)) h7 [t, q, e] 23 #[.val (.ref a)] [.ref y, .ref e, .ref e] := H10
    have Xe := ((Xe5.keep K6).keep K7)
    obtain ⟨_, h9, _, ⟨rfl, rfl, X9, M9⟩, K9, H11⟩ := H10.callI (argsL := [.ref y]) (rest := [.ref e]) (Wr := 1) (a := e) (ct_iini hw x.l x.nar x.kn hnar h7 (hkn.trans hkn0) (by rw [hl]; exact hlt) e y Xe (Unt.keep K7 nin0 (Unt.keep K6 (ninS heq (ninS het nin0)) Ue5)) ((R0.keep K6 (ninS heq (ninS het nin0))).keep K7 nin0) ((R1.keep K6 (ninS heq (ninS het nin0))).keep K7 nin0) ((R2.keep K6 (ninS heq (ninS het nin0))).keep K7 nin0) ((R3.keep K6 (ninS heq (ninS het nin0))).keep K7 nin0) ((R4.keep K6 (ninS heq (ninS het nin0))).keep K7 nin0) us ul rs rl S1 S2) (sub1 (by simp)) (w140 hw) (w141 hw) (w24 hw) (w142 hw) d_invh_23 pd_iini rfl (hf := by first | (simp [b_invh, Bx.R]; done) | (simp [b_invh, Bx.R]; omega)) (hl := by first | (simp [b_invh, Bx.R]; done) | (simp [b_invh, Bx.R]; omega)) (hc := by first | (simp [b_invh, Bx.R]; done) | (simp [b_invh, Bx.R]; omega)) (hs := by first | (simp [b_invh, Bx.R]; done) | (simp [b_invh, Bx.R]; omega))
    have H11 : Hr x b_invh Z EL1 8 (90 + (4 + ([] ++ tPre ++ ds).length) + 2752) h9 [t, q, e] 26 #[.val (.ref a)] [.ref e] := H11
    have S9 := S7.keep K9 (ninS (S7.1.ne Xe (by decide)) nin0) (ninS (Ne.symm (exa_neAr Xe S7.2.2.2 (w27 hw))) nin0)
    exact (H11.weaken (K' := 9) (S' := 2898) (sf' := []) (by first | omega | (simp; done) | (simp; omega)) (by first | omega | (simp; done) | (simp; omega)) (fun _ q => nomatch q)).finA d_invh_26 ⟨e, y, u, rfl, rfl, X9, M9, by simpa using S9⟩ sub0
  · have z11 := q0
    by_cases q1 : ds.length = 1
    · have z11 := q1
      obtain ⟨_, h6, _, ⟨rfl, rfl, B6⟩, K6, H12⟩ := H8.callV (argsL := [.ref a]) (rest := [.ref e, .ref e]) (Wr := 2) (a := q) (ct_sapp hw x.l x.nar x.kn hnar h5 q t a k _ ds _ B5 G5 b5 bd (by have hlp0 : tPre.length = 15 := rfl; have := e15; omega) hqt cz O hcz) (by simp) B5.1 (w47 hw) (w48 hw) (w50 hw) (w50 hw) (w49 hw) (w30 hw) (w51 hw) d_invh_17 pd_sapg rfl (hf := by first | decide | (simp [b_invh, Bx.R]; done) | (simp [b_invh, Bx.R]; omega)) (hl := by first | decide | (simp [b_invh, Bx.R]; done) | (simp [b_invh, Bx.R]; omega)) (hc := by first | decide | (simp [b_invh, Bx.R]; done) | (simp [b_invh, Bx.R]; omega)) (hs := by first | decide | (simp [b_invh, Bx.R]; done) | (simp [b_invh, Bx.R]; omega))
      have H12 : Hr x b_invh Z EL1 5 90 h6 [t, q, e] 20 #[.val (.ref a)] [.ref q, .ref e, .ref e] := H12
      have b6 : BL ([] ++ tPre ++ ds) := BL.app b5 bd
      have h16 : ([] ++ tPre ++ ds).length = 16 := by rw [List.length_append, e15]; omega
      have F6 : Sbd Z h6 q t ([] ++ tPre ++ ds) 0 := by have q_ := B6; rw [show 16 - tPre.length - ds.length = 0 from by have : tPre.length = 15 := rfl; omega] at q_; exact q_
      obtain ⟨_, h7, _, ⟨y, u, rfl, rfl, S7⟩, K7, H13⟩ := H12.callV (argsL := []) (rest := [.ref e, .ref e]) (Wr := 2) (a := q) (ct_tst0 hw x.l x.nar x.kn hnar h6 q t _ F6 (Xt5.keep K6) b6 h16 cz O hcz) sub0 B6.1 (w95 hw) (w96 hw) (w98 hw) (w98 hw) (w97 hw) (w30 hw) (w99 hw) d_invh_20 pd_tst0 rfl (hf := by first | decide | (simp [b_invh, Bx.R]; done) | (simp [b_invh, Bx.R]; omega)) (hl := by first | decide | (simp [b_invh, Bx.R]; done) | (simp [b_invh, Bx.R]; omega)) (hc := by first | decide | (simp [b_invh, Bx.R]; done) | (simp [b_invh, Bx.R]; omega)) (hs := by first | decide | (simp [b_invh, Bx.R]; done) | (simp [b_invh, Bx.R]; omega))
      have H13 : Hr x b_invh Z EL1 7 110 h7 [t, q, e] 23 #[.val (.ref a)] [.ref y, .ref e, .ref e] := H13
      have Xe := ((Xe5.keep K6).keep K7)
      obtain ⟨_, h9, _, ⟨rfl, rfl, X9, M9⟩, K9, H14⟩ := H13.callI (argsL := [.ref y]) (rest := [.ref e]) (Wr := 1) (a := e) (ct_iini hw x.l x.nar x.kn hnar h7 (hkn.trans hkn0) (by rw [hl]; exact hlt) e y Xe (Unt.keep K7 nin0 (Unt.keep K6 (ninS heq (ninS het nin0)) Ue5)) ((R0.keep K6 (ninS heq (ninS het nin0))).keep K7 nin0) ((R1.keep K6 (ninS heq (ninS het nin0))).keep K7 nin0) ((R2.keep K6 (ninS heq (ninS het nin0))).keep K7 nin0) ((R3.keep K6 (ninS heq (ninS het nin0))).keep K7 nin0) ((R4.keep K6 (ninS heq (ninS het nin0))).keep K7 nin0) us ul rs rl S1 S2) (sub1 (by simp)) (w140 hw) (w141 hw) (w24 hw) (w142 hw) d_invh_23 pd_iini rfl (hf := by first | decide | (simp [b_invh, Bx.R]; done) | (simp [b_invh, Bx.R]; omega)) (hl := by first | decide | (simp [b_invh, Bx.R]; done) | (simp [b_invh, Bx.R]; omega)) (hc := by first | decide | (simp [b_invh, Bx.R]; done) | (simp [b_invh, Bx.R]; omega)) (hs := by first | decide | (simp [b_invh, Bx.R]; done) | (simp [b_invh, Bx.R]; omega))
      have H14 : Hr x b_invh Z EL1 8 2862 h9 [t, q, e] 26 #[.val (.ref a)] [.ref e] := H14
      have S9 := S7.keep K9 (ninS (S7.1.ne Xe (by decide)) nin0) (ninS (Ne.symm (exa_neAr Xe S7.2.2.2 (w27 hw))) nin0)
      exact (H14.weaken (K' := 9) (S' := 2898) (sf' := []) (by first | omega | (simp; done) | (simp; omega)) (by first | omega | (simp; done) | (simp; omega)) (fun _ q => nomatch q)).finA d_invh_26 ⟨e, y, u, rfl, rfl, X9, M9, by simpa using S9⟩ sub0
    · have z14 := q1
      obtain ⟨_, h6, _, ⟨t2, rfl, rfl, ht2, B6⟩, K6, H15⟩ := H8.callV (argsL := [.ref a]) (rest := [.ref e, .ref e]) (Wr := 2) (a := q) (ct_sapg hw x.l x.nar x.kn hnar h5 q t a k _ ds _ B5 G5 b5 bd (by rw [e15]; rfl) (by have hlp0 : tPre.length = 15 := rfl; have := e15; omega) cz O hcz) (sub1 (by simp)) B5.1 (w47 hw) (w48 hw) (w50 hw) (w50 hw) (w49 hw) (w30 hw) (w51 hw) d_invh_17 pd_sapg rfl (hf := by first | decide | (simp [b_invh, Bx.R]; done) | (simp [b_invh, Bx.R]; omega)) (hl := by first | decide | (simp [b_invh, Bx.R]; done) | (simp [b_invh, Bx.R]; omega)) (hc := by first | decide | (simp [b_invh, Bx.R]; done) | (simp [b_invh, Bx.R]; omega)) (hs := by first | decide | (simp [b_invh, Bx.R]; done) | (simp [b_invh, Bx.R]; omega))
      have H15 : Hr x b_invh Z EL1 6 124 h6 [t2, t, q, e] 20 #[.val (.ref a)] [.ref q, .ref e, .ref e] := H15
      have b6 : BL ([] ++ tPre ++ ds) := BL.app b5 bd
      have hlen : ([] ++ tPre ++ ds).length ≤ 18 := by rw [List.length_append, e15]; omega
      obtain ⟨_, h7, _, ⟨y, u, rfl, rfl, S7⟩, K7, H16⟩ := H15.callV (argsL := []) (rest := [.ref e, .ref e]) (Wr := 2) (a := q) (ct_tstr hw x.l x.nar x.kn hnar h6 q t2 _ _ B6 b6 (by omega) (by omega) cz O hcz) sub0 B6.1 (w95 hw) (w96 hw) (w98 hw) (w98 hw) (w97 hw) (w30 hw) (w99 hw) d_invh_20 pd_tst0 rfl (hf := by first | (simp [b_invh, Bx.R]; done) | (simp [b_invh, Bx.R]; omega)) (hl := by first | (simp [b_invh, Bx.R]; done) | (simp [b_invh, Bx.R]; omega)) (hc := by first | (simp [b_invh, Bx.R]; done) | (simp [b_invh, Bx.R]; omega)) (hs := by first | (simp [b_invh, Bx.R]; done) | (simp [b_invh, Bx.R]; omega))
      have H16 : Hr x b_invh Z EL1 8 (124 + (4 + ([] ++ tPre ++ ds).length)) h7 [t2, t, q, e] 23 #[.val (.ref a)] [.ref y, .ref e, .ref e] := H16
      have Xe := ((Xe5.keep K6).keep K7)
      obtain ⟨_, h9, _, ⟨rfl, rfl, X9, M9⟩, K9, H17⟩ := H16.callI (argsL := [.ref y]) (rest := [.ref e]) (Wr := 1) (a := e) (ct_iini hw x.l x.nar x.kn hnar h7 (hkn.trans hkn0) (by rw [hl]; exact hlt) e y Xe (Unt.keep K7 nin0 (Unt.keep K6 (ninS heq nin0) Ue5)) ((R0.keep K6 (ninS heq nin0)).keep K7 nin0) ((R1.keep K6 (ninS heq nin0)).keep K7 nin0) ((R2.keep K6 (ninS heq nin0)).keep K7 nin0) ((R3.keep K6 (ninS heq nin0)).keep K7 nin0) ((R4.keep K6 (ninS heq nin0)).keep K7 nin0) us ul rs rl S1 S2) (sub1 (by simp)) (w140 hw) (w141 hw) (w24 hw) (w142 hw) d_invh_23 pd_iini rfl (hf := by first | (simp [b_invh, Bx.R]; done) | (simp [b_invh, Bx.R]; omega)) (hl := by first | (simp [b_invh, Bx.R]; done) | (simp [b_invh, Bx.R]; omega)) (hc := by first | (simp [b_invh, Bx.R]; done) | (simp [b_invh, Bx.R]; omega)) (hs := by first | (simp [b_invh, Bx.R]; done) | (simp [b_invh, Bx.R]; omega))
      have H17 : Hr x b_invh Z EL1 9 (124 + (4 + ([] ++ tPre ++ ds).length) + 2752) h9 [t2, t, q, e] 26 #[.val (.ref a)] [.ref e] := H17
      have S9 := S7.keep K9 (ninS (S7.1.ne Xe (by decide)) nin0) (ninS (Ne.symm (exa_neAr Xe S7.2.2.2 (w27 hw))) nin0)
      exact (H17.weaken (K' := 9) (S' := 2898) (sf' := []) (by first | omega | (simp; done) | (simp; omega)) (by first | omega | (simp; done) | (simp; omega)) (fun _ q => nomatch q)).finA d_invh_26 ⟨e, y, u, rfl, rfl, X9, M9, by simpa using S9⟩ sub0
def b_gmsg : Bx := (({ frames := 0, cells := 0, slots := 0, locals := 0 } : Room), (⟨"java/lang/Throwable", "getMessage", "()Ljava/lang/String;"⟩ : MethodName), jdk_78_method_6_code, 1, (Option.some (Jvm.ClassFile.FieldType.object "java/lang/String")))
theorem ef_gmsg (s : Addr) (mI : MethodId) : entryFrame mI #[.ref s] 1 = mkF mI 0 #[.val (.ref s)] [] := by first | (simp [entryFrame, mkF, argsToLocals, Value.category]; done) | rfl
theorem pd_gmsg : parseMethodDescriptor "()Ljava/lang/String;" = some ⟨[], some (.object "java/lang/String")⟩ := by decide +kernel
set_option maxRecDepth 65536 in
set_option maxHeartbeats 4000000 in
theorem ct_gmsg {a0 : Array Value} {Z : State} (hw : ∀ d ∈ tables_1, d.before a0 Z = true) (l : Launch) (nar kn : Bool) (hnr : nar = false) (h0 : Heap) (s a : Addr) (F0 : Fld Z h0 s "java/lang/Throwable" "detailMessage" "Ljava/lang/String;" (.ref a)) :
    Ct l Z EL1 (⟨"java/lang/Throwable", "getMessage", "()Ljava/lang/String;"⟩ : MethodName) jdk_78_method_6_code 1 (Option.some (Jvm.ClassFile.FieldType.object "java/lang/String")) ({ frames := 0, cells := 0, slots := 0, locals := 0 } : Room) #[.ref s] h0 [] nar kn (fun v h sn => v = some (.ref a) ∧ sn = [] ∧ h = h0) := by
  refine Ct.intro (plainFor_of_name pn_java_lang_Throwable) (ew hw) (ef_gmsg s) ?_
  intro x hl hn0 hkn hsf hh H0
  have hnar : x.nar = false := hn0.trans hnr
  have H0 : Hr x b_gmsg Z EL1 0 0 h0 [] 0 #[.val (.ref s)] [] := H0
  have H1 : Hr x b_gmsg Z EL1 0 0 h0 [] 1 #[.val (.ref s)] [.ref s] := H0.aloadN d_gmsg_0
  have H2 : Hr x b_gmsg Z EL1 0 0 h0 [] 4 #[.val (.ref s)] [.ref a] := H1.getF (w190 hw) F0 d_gmsg_1
  exact H2.finA d_gmsg_4 ⟨rfl, rfl, rfl⟩ sub0
def b_pfok : Bx := (({ frames := 4, cells := 0, slots := 0, locals := 60 } : Room), (⟨"com/example/rungway/rungway/framework/InstallExceptionInvalidHeaderPinLaw", "prefixOk", "(Ljava/lang/String;)Z"⟩ : MethodName), method_3_code, 1, (Option.some Jvm.ClassFile.FieldType.boolean))
theorem ef_pfok (a : Addr) (mI : MethodId) : entryFrame mI #[.ref a] 1 = mkF mI 0 #[.val (.ref a)] [] := by first | (simp [entryFrame, mkF, argsToLocals, Value.category]; done) | rfl
theorem pn_com_example_rungway_rungway_framework_InstallExceptionInvalidHeaderPinLaw : plainName "com/example/rungway/rungway/framework/InstallExceptionInvalidHeaderPinLaw" = true := by first | (simp [plainName, overriddenIn]; done) | decide +kernel
theorem pd_pfok : parseMethodDescriptor "(Ljava/lang/String;)Z" = some ⟨[(.object "java/lang/String")], some .boolean⟩ := by decide +kernel
set_option maxRecDepth 65536 in
set_option maxHeartbeats 4000000 in
theorem ct_pfok {a0 : Array Value} {Z : State} (hw : ∀ d ∈ tables_1, d.before a0 Z = true) (l : Launch) (nar kn : Bool) (hnr : nar = false) (h0 : Heap) (a t : Addr) (ds : List Int32) (G : Str Z h0 a t (tPre ++ ds)) (f : Value) (hfr : f.isRef = true) (P : Sta Z Z.heap "jdk/internal/util/Preconditions" "SIOOBE_FORMATTER" "Ljava/util/function/BiFunction;" f) (cz : Int32) (O : Sta Z Z.heap "java/lang/String" "COMPACT_STRINGS" "Z" (.int cz)) (hcz : ¬ cz = 0) :
    Ct l Z EL1 (⟨"com/example/rungway/rungway/framework/InstallExceptionInvalidHeaderPinLaw", "prefixOk", "(Ljava/lang/String;)Z"⟩ : MethodName) method_3_code 1 (Option.some Jvm.ClassFile.FieldType.boolean) ({ frames := 4, cells := 0, slots := 0, locals := 60 } : Room) #[.ref a] h0 [] nar kn (fun v h sn => v = some (.int 1) ∧ sn = [] ∧ h = h0) := by
  refine Ct.intro (plainFor_of_name pn_com_example_rungway_rungway_framework_InstallExceptionInvalidHeaderPinLaw) (ew hw) (ef_pfok a) ?_
  intro x hl hn0 hkn hsf hh H0
  have hnar : x.nar = false := hn0.trans hnr
  have H0 : Hr x b_pfok Z EL1 0 0 h0 [] 0 #[.val (.ref a)] [] := H0
  have H1 : Hr x b_pfok Z EL1 0 0 h0 [] 1 #[.val (.ref a)] [.ref a] := H0.aloadN d_pfok_0
  have H2 : Hr x b_pfok Z EL1 0 0 h0 [] 2 #[.val (.ref a)] [.int (0 : Int32), .ref a] := H1.iconst d_pfok_1
  obtain ⟨_, hc0, _, ⟨rfl, rfl, e0⟩, Kc0, H3⟩ := H2.callV (argsL := [.int (0 : Int32)]) (rest := []) (Wr := 0) (a := a) (ct_scha hw x.l x.nar x.kn hnar h0 a t 0 _ G (by have : tPre.length = 15 := rfl; rw [List.length_append, this]; omega) f hfr P cz O hcz) sub0 G.1 (w202 hw) (w203 hw) (w205 hw) (w205 hw) (w204 hw) (w2 hw) (w206 hw) d_pfok_2 pd_scha rfl (hf := by first | decide | (simp [b_pfok, Bx.R]; done) | (simp [b_pfok, Bx.R]; omega)) (hl := by first | decide | (simp [b_pfok, Bx.R]; done) | (simp [b_pfok, Bx.R]; omega)) (hc := by first | decide | (simp [b_pfok, Bx.R]; done) | (simp [b_pfok, Bx.R]; omega)) (hs := by first | decide | (simp [b_pfok, Bx.R]; done) | (simp [b_pfok, Bx.R]; omega))
  rw [e0] at H3
  have H3 : Hr x b_pfok Z EL1 0 0 h0 [] 5 #[.val (.ref a)] [.int (u8 ((tPre ++ ds).getD 0 0))] := H3
  rw [show u8 ((tPre ++ ds).getD 0 0) = (105 : Int32) by rw [pre_at (by decide)]; decide] at H3
  have H3 : Hr x b_pfok Z EL1 0 0 h0 [] 5 #[.val (.ref a)] [.int (105 : Int32)] := H3
  have H4 : Hr x b_pfok Z EL1 0 0 h0 [] 7 #[.val (.ref a)] [.int (105 : Int32), .int (105 : Int32)] := H3.bipush d_pfok_5
  have H5 : Hr x b_pfok Z EL1 0 0 h0 [] 10 #[.val (.ref a)] [] := H4.icmpF d_pfok_7 (XT.ii_ne_f rfl)
  have H6 : Hr x b_pfok Z EL1 0 0 h0 [] 11 #[.val (.ref a)] [.ref a] := H5.aloadN d_pfok_10
  have H7 : Hr x b_pfok Z EL1 0 0 h0 [] 12 #[.val (.ref a)] [.int (1 : Int32), .ref a] := H6.iconst d_pfok_11
  obtain ⟨_, hc1, _, ⟨rfl, rfl, e1⟩, Kc1, H8⟩ := H7.callV (argsL := [.int (1 : Int32)]) (rest := []) (Wr := 0) (a := a) (ct_scha hw x.l x.nar x.kn hnar h0 a t 1 _ G (by have : tPre.length = 15 := rfl; rw [List.length_append, this]; omega) f hfr P cz O hcz) sub0 G.1 (w202 hw) (w203 hw) (w205 hw) (w205 hw) (w204 hw) (w2 hw) (w206 hw) d_pfok_12 pd_scha rfl (hf := by first | decide | (simp [b_pfok, Bx.R]; done) | (simp [b_pfok, Bx.R]; omega)) (hl := by first | decide | (simp [b_pfok, Bx.R]; done) | (simp [b_pfok, Bx.R]; omega)) (hc := by first | decide | (simp [b_pfok, Bx.R]; done) | (simp [b_pfok, Bx.R]; omega)) (hs := by first | decide | (simp [b_pfok, Bx.R]; done) | (simp [b_pfok, Bx.R]; omega))
  rw [e1] at H8
  have H8 : Hr x b_pfok Z EL1 0 0 h0 [] 15 #[.val (.ref a)] [.int (u8 ((tPre ++ ds).getD 1 0))] := H8
  rw [show u8 ((tPre ++ ds).getD 1 0) = (110 : Int32) by rw [pre_at (by decide)]; decide] at H8
  have H8 : Hr x b_pfok Z EL1 0 0 h0 [] 15 #[.val (.ref a)] [.int (110 : Int32)] := H8
  have H9 : Hr x b_pfok Z EL1 0 0 h0 [] 17 #[.val (.ref a)] [.int (110 : Int32), .int (110 : Int32)] := H8.bipush d_pfok_15
  have H10 : Hr x b_pfok Z EL1 0 0 h0 [] 20 #[.val (.ref a)] [] := H9.icmpF d_pfok_17 (XT.ii_ne_f rfl)
  have H11 : Hr x b_pfok Z EL1 0 0 h0 [] 21 #[.val (.ref a)] [.ref a] := H10.aloadN d_pfok_20
  have H12 : Hr x b_pfok Z EL1 0 0 h0 [] 22 #[.val (.ref a)] [.int (2 : Int32), .ref a] := H11.iconst d_pfok_21
  obtain ⟨_, hc2, _, ⟨rfl, rfl, e2⟩, Kc2, H13⟩ := H12.callV (argsL := [.int (2 : Int32)]) (rest := []) (Wr := 0) (a := a) (ct_scha hw x.l x.nar x.kn hnar h0 a t 2 _ G (by have : tPre.length = 15 := rfl; rw [List.length_append, this]; omega) f hfr P cz O hcz) sub0 G.1 (w202 hw) (w203 hw) (w205 hw) (w205 hw) (w204 hw) (w2 hw) (w206 hw) d_pfok_22 pd_scha rfl (hf := by first | decide | (simp [b_pfok, Bx.R]; done) | (simp [b_pfok, Bx.R]; omega)) (hl := by first | decide | (simp [b_pfok, Bx.R]; done) | (simp [b_pfok, Bx.R]; omega)) (hc := by first | decide | (simp [b_pfok, Bx.R]; done) | (simp [b_pfok, Bx.R]; omega)) (hs := by first | decide | (simp [b_pfok, Bx.R]; done) | (simp [b_pfok, Bx.R]; omega))
  rw [e2] at H13
  have H13 : Hr x b_pfok Z EL1 0 0 h0 [] 25 #[.val (.ref a)] [.int (u8 ((tPre ++ ds).getD 2 0))] := H13
  rw [show u8 ((tPre ++ ds).getD 2 0) = (118 : Int32) by rw [pre_at (by decide)]; decide] at H13
  have H13 : Hr x b_pfok Z EL1 0 0 h0 [] 25 #[.val (.ref a)] [.int (118 : Int32)] := H13
  have H14 : Hr x b_pfok Z EL1 0 0 h0 [] 27 #[.val (.ref a)] [.int (118 : Int32), .int (118 : Int32)] := H13.bipush d_pfok_25
  have H15 : Hr x b_pfok Z EL1 0 0 h0 [] 30 #[.val (.ref a)] [] := H14.icmpF d_pfok_27 (XT.ii_ne_f rfl)
  have H16 : Hr x b_pfok Z EL1 0 0 h0 [] 31 #[.val (.ref a)] [.ref a] := H15.aloadN d_pfok_30
  have H17 : Hr x b_pfok Z EL1 0 0 h0 [] 32 #[.val (.ref a)] [.int (3 : Int32), .ref a] := H16.iconst d_pfok_31
  obtain ⟨_, hc3, _, ⟨rfl, rfl, e3⟩, Kc3, H18⟩ := H17.callV (argsL := [.int (3 : Int32)]) (rest := []) (Wr := 0) (a := a) (ct_scha hw x.l x.nar x.kn hnar h0 a t 3 _ G (by have : tPre.length = 15 := rfl; rw [List.length_append, this]; omega) f hfr P cz O hcz) sub0 G.1 (w202 hw) (w203 hw) (w205 hw) (w205 hw) (w204 hw) (w2 hw) (w206 hw) d_pfok_32 pd_scha rfl (hf := by first | decide | (simp [b_pfok, Bx.R]; done) | (simp [b_pfok, Bx.R]; omega)) (hl := by first | decide | (simp [b_pfok, Bx.R]; done) | (simp [b_pfok, Bx.R]; omega)) (hc := by first | decide | (simp [b_pfok, Bx.R]; done) | (simp [b_pfok, Bx.R]; omega)) (hs := by first | decide | (simp [b_pfok, Bx.R]; done) | (simp [b_pfok, Bx.R]; omega))
  rw [e3] at H18
  have H18 : Hr x b_pfok Z EL1 0 0 h0 [] 35 #[.val (.ref a)] [.int (u8 ((tPre ++ ds).getD 3 0))] := H18
  rw [show u8 ((tPre ++ ds).getD 3 0) = (97 : Int32) by rw [pre_at (by decide)]; decide] at H18
  have H18 : Hr x b_pfok Z EL1 0 0 h0 [] 35 #[.val (.ref a)] [.int (97 : Int32)] := H18
  have H19 : Hr x b_pfok Z EL1 0 0 h0 [] 37 #[.val (.ref a)] [.int (97 : Int32), .int (97 : Int32)] := H18.bipush d_pfok_35
  have H20 : Hr x b_pfok Z EL1 0 0 h0 [] 40 #[.val (.ref a)] [] := H19.icmpF d_pfok_37 (XT.ii_ne_f rfl)
  have H21 : Hr x b_pfok Z EL1 0 0 h0 [] 41 #[.val (.ref a)] [.ref a] := H20.aloadN d_pfok_40
  have H22 : Hr x b_pfok Z EL1 0 0 h0 [] 42 #[.val (.ref a)] [.int (4 : Int32), .ref a] := H21.iconst d_pfok_41
  obtain ⟨_, hc4, _, ⟨rfl, rfl, e4⟩, Kc4, H23⟩ := H22.callV (argsL := [.int (4 : Int32)]) (rest := []) (Wr := 0) (a := a) (ct_scha hw x.l x.nar x.kn hnar h0 a t 4 _ G (by have : tPre.length = 15 := rfl; rw [List.length_append, this]; omega) f hfr P cz O hcz) sub0 G.1 (w202 hw) (w203 hw) (w205 hw) (w205 hw) (w204 hw) (w2 hw) (w206 hw) d_pfok_42 pd_scha rfl (hf := by first | decide | (simp [b_pfok, Bx.R]; done) | (simp [b_pfok, Bx.R]; omega)) (hl := by first | decide | (simp [b_pfok, Bx.R]; done) | (simp [b_pfok, Bx.R]; omega)) (hc := by first | decide | (simp [b_pfok, Bx.R]; done) | (simp [b_pfok, Bx.R]; omega)) (hs := by first | decide | (simp [b_pfok, Bx.R]; done) | (simp [b_pfok, Bx.R]; omega))
  rw [e4] at H23
  have H23 : Hr x b_pfok Z EL1 0 0 h0 [] 45 #[.val (.ref a)] [.int (u8 ((tPre ++ ds).getD 4 0))] := H23
  rw [show u8 ((tPre ++ ds).getD 4 0) = (108 : Int32) by rw [pre_at (by decide)]; decide] at H23
  have H23 : Hr x b_pfok Z EL1 0 0 h0 [] 45 #[.val (.ref a)] [.int (108 : Int32)] := H23
  have H24 : Hr x b_pfok Z EL1 0 0 h0 [] 47 #[.val (.ref a)] [.int (108 : Int32), .int (108 : Int32)] := H23.bipush d_pfok_45
  have H25 : Hr x b_pfok Z EL1 0 0 h0 [] 50 #[.val (.ref a)] [] := H24.icmpF d_pfok_47 (XT.ii_ne_f rfl)
  have H26 : Hr x b_pfok Z EL1 0 0 h0 [] 51 #[.val (.ref a)] [.ref a] := H25.aloadN d_pfok_50
  have H27 : Hr x b_pfok Z EL1 0 0 h0 [] 52 #[.val (.ref a)] [.int (5 : Int32), .ref a] := H26.iconst d_pfok_51
  obtain ⟨_, hc5, _, ⟨rfl, rfl, e5⟩, Kc5, H28⟩ := H27.callV (argsL := [.int (5 : Int32)]) (rest := []) (Wr := 0) (a := a) (ct_scha hw x.l x.nar x.kn hnar h0 a t 5 _ G (by have : tPre.length = 15 := rfl; rw [List.length_append, this]; omega) f hfr P cz O hcz) sub0 G.1 (w202 hw) (w203 hw) (w205 hw) (w205 hw) (w204 hw) (w2 hw) (w206 hw) d_pfok_52 pd_scha rfl (hf := by first | decide | (simp [b_pfok, Bx.R]; done) | (simp [b_pfok, Bx.R]; omega)) (hl := by first | decide | (simp [b_pfok, Bx.R]; done) | (simp [b_pfok, Bx.R]; omega)) (hc := by first | decide | (simp [b_pfok, Bx.R]; done) | (simp [b_pfok, Bx.R]; omega)) (hs := by first | decide | (simp [b_pfok, Bx.R]; done) | (simp [b_pfok, Bx.R]; omega))
  rw [e5] at H28
  have H28 : Hr x b_pfok Z EL1 0 0 h0 [] 55 #[.val (.ref a)] [.int (u8 ((tPre ++ ds).getD 5 0))] := H28
  rw [show u8 ((tPre ++ ds).getD 5 0) = (105 : Int32) by rw [pre_at (by decide)]; decide] at H28
  have H28 : Hr x b_pfok Z EL1 0 0 h0 [] 55 #[.val (.ref a)] [.int (105 : Int32)] := H28
  have H29 : Hr x b_pfok Z EL1 0 0 h0 [] 57 #[.val (.ref a)] [.int (105 : Int32), .int (105 : Int32)] := H28.bipush d_pfok_55
  have H30 : Hr x b_pfok Z EL1 0 0 h0 [] 60 #[.val (.ref a)] [] := H29.icmpF d_pfok_57 (XT.ii_ne_f rfl)
  have H31 : Hr x b_pfok Z EL1 0 0 h0 [] 61 #[.val (.ref a)] [.ref a] := H30.aloadN d_pfok_60
  have H32 : Hr x b_pfok Z EL1 0 0 h0 [] 63 #[.val (.ref a)] [.int (6 : Int32), .ref a] := H31.bipush d_pfok_61
  obtain ⟨_, hc6, _, ⟨rfl, rfl, e6⟩, Kc6, H33⟩ := H32.callV (argsL := [.int (6 : Int32)]) (rest := []) (Wr := 0) (a := a) (ct_scha hw x.l x.nar x.kn hnar h0 a t 6 _ G (by have : tPre.length = 15 := rfl; rw [List.length_append, this]; omega) f hfr P cz O hcz) sub0 G.1 (w202 hw) (w203 hw) (w205 hw) (w205 hw) (w204 hw) (w2 hw) (w206 hw) d_pfok_63 pd_scha rfl (hf := by first | decide | (simp [b_pfok, Bx.R]; done) | (simp [b_pfok, Bx.R]; omega)) (hl := by first | decide | (simp [b_pfok, Bx.R]; done) | (simp [b_pfok, Bx.R]; omega)) (hc := by first | decide | (simp [b_pfok, Bx.R]; done) | (simp [b_pfok, Bx.R]; omega)) (hs := by first | decide | (simp [b_pfok, Bx.R]; done) | (simp [b_pfok, Bx.R]; omega))
  rw [e6] at H33
  have H33 : Hr x b_pfok Z EL1 0 0 h0 [] 66 #[.val (.ref a)] [.int (u8 ((tPre ++ ds).getD 6 0))] := H33
  rw [show u8 ((tPre ++ ds).getD 6 0) = (100 : Int32) by rw [pre_at (by decide)]; decide] at H33
  have H33 : Hr x b_pfok Z EL1 0 0 h0 [] 66 #[.val (.ref a)] [.int (100 : Int32)] := H33
  have H34 : Hr x b_pfok Z EL1 0 0 h0 [] 68 #[.val (.ref a)] [.int (100 : Int32), .int (100 : Int32)] := H33.bipush d_pfok_66
  have H35 : Hr x b_pfok Z EL1 0 0 h0 [] 71 #[.val (.ref a)] [] := H34.icmpF d_pfok_68 (XT.ii_ne_f rfl)
  have H36 : Hr x b_pfok Z EL1 0 0 h0 [] 72 #[.val (.ref a)] [.ref a] := H35.aloadN d_pfok_71
  have H37 : Hr x b_pfok Z EL1 0 0 h0 [] 74 #[.val (.ref a)] [.int (7 : Int32), .ref a] := H36.bipush d_pfok_72
  obtain ⟨_, hc7, _, ⟨rfl, rfl, e7⟩, Kc7, H38⟩ := H37.callV (argsL := [.int (7 : Int32)]) (rest := []) (Wr := 0) (a := a) (ct_scha hw x.l x.nar x.kn hnar h0 a t 7 _ G (by have : tPre.length = 15 := rfl; rw [List.length_append, this]; omega) f hfr P cz O hcz) sub0 G.1 (w202 hw) (w203 hw) (w205 hw) (w205 hw) (w204 hw) (w2 hw) (w206 hw) d_pfok_74 pd_scha rfl (hf := by first | decide | (simp [b_pfok, Bx.R]; done) | (simp [b_pfok, Bx.R]; omega)) (hl := by first | decide | (simp [b_pfok, Bx.R]; done) | (simp [b_pfok, Bx.R]; omega)) (hc := by first | decide | (simp [b_pfok, Bx.R]; done) | (simp [b_pfok, Bx.R]; omega)) (hs := by first | decide | (simp [b_pfok, Bx.R]; done) | (simp [b_pfok, Bx.R]; omega))
  rw [e7] at H38
  have H38 : Hr x b_pfok Z EL1 0 0 h0 [] 77 #[.val (.ref a)] [.int (u8 ((tPre ++ ds).getD 7 0))] := H38
  rw [show u8 ((tPre ++ ds).getD 7 0) = (32 : Int32) by rw [pre_at (by decide)]; decide] at H38
  have H38 : Hr x b_pfok Z EL1 0 0 h0 [] 77 #[.val (.ref a)] [.int (32 : Int32)] := H38
  have H39 : Hr x b_pfok Z EL1 0 0 h0 [] 79 #[.val (.ref a)] [.int (32 : Int32), .int (32 : Int32)] := H38.bipush d_pfok_77
  have H40 : Hr x b_pfok Z EL1 0 0 h0 [] 82 #[.val (.ref a)] [] := H39.icmpF d_pfok_79 (XT.ii_ne_f rfl)
  have H41 : Hr x b_pfok Z EL1 0 0 h0 [] 83 #[.val (.ref a)] [.ref a] := H40.aloadN d_pfok_82
  have H42 : Hr x b_pfok Z EL1 0 0 h0 [] 85 #[.val (.ref a)] [.int (8 : Int32), .ref a] := H41.bipush d_pfok_83
  obtain ⟨_, hc8, _, ⟨rfl, rfl, e8⟩, Kc8, H43⟩ := H42.callV (argsL := [.int (8 : Int32)]) (rest := []) (Wr := 0) (a := a) (ct_scha hw x.l x.nar x.kn hnar h0 a t 8 _ G (by have : tPre.length = 15 := rfl; rw [List.length_append, this]; omega) f hfr P cz O hcz) sub0 G.1 (w202 hw) (w203 hw) (w205 hw) (w205 hw) (w204 hw) (w2 hw) (w206 hw) d_pfok_85 pd_scha rfl (hf := by first | decide | (simp [b_pfok, Bx.R]; done) | (simp [b_pfok, Bx.R]; omega)) (hl := by first | decide | (simp [b_pfok, Bx.R]; done) | (simp [b_pfok, Bx.R]; omega)) (hc := by first | decide | (simp [b_pfok, Bx.R]; done) | (simp [b_pfok, Bx.R]; omega)) (hs := by first | decide | (simp [b_pfok, Bx.R]; done) | (simp [b_pfok, Bx.R]; omega))
  rw [e8] at H43
  have H43 : Hr x b_pfok Z EL1 0 0 h0 [] 88 #[.val (.ref a)] [.int (u8 ((tPre ++ ds).getD 8 0))] := H43
  rw [show u8 ((tPre ++ ds).getD 8 0) = (104 : Int32) by rw [pre_at (by decide)]; decide] at H43
  have H43 : Hr x b_pfok Z EL1 0 0 h0 [] 88 #[.val (.ref a)] [.int (104 : Int32)] := H43
  have H44 : Hr x b_pfok Z EL1 0 0 h0 [] 90 #[.val (.ref a)] [.int (104 : Int32), .int (104 : Int32)] := H43.bipush d_pfok_88
  have H45 : Hr x b_pfok Z EL1 0 0 h0 [] 93 #[.val (.ref a)] [] := H44.icmpF d_pfok_90 (XT.ii_ne_f rfl)
  have H46 : Hr x b_pfok Z EL1 0 0 h0 [] 94 #[.val (.ref a)] [.ref a] := H45.aloadN d_pfok_93
  have H47 : Hr x b_pfok Z EL1 0 0 h0 [] 96 #[.val (.ref a)] [.int (9 : Int32), .ref a] := H46.bipush d_pfok_94
  obtain ⟨_, hc9, _, ⟨rfl, rfl, e9⟩, Kc9, H48⟩ := H47.callV (argsL := [.int (9 : Int32)]) (rest := []) (Wr := 0) (a := a) (ct_scha hw x.l x.nar x.kn hnar h0 a t 9 _ G (by have : tPre.length = 15 := rfl; rw [List.length_append, this]; omega) f hfr P cz O hcz) sub0 G.1 (w202 hw) (w203 hw) (w205 hw) (w205 hw) (w204 hw) (w2 hw) (w206 hw) d_pfok_96 pd_scha rfl (hf := by first | decide | (simp [b_pfok, Bx.R]; done) | (simp [b_pfok, Bx.R]; omega)) (hl := by first | decide | (simp [b_pfok, Bx.R]; done) | (simp [b_pfok, Bx.R]; omega)) (hc := by first | decide | (simp [b_pfok, Bx.R]; done) | (simp [b_pfok, Bx.R]; omega)) (hs := by first | decide | (simp [b_pfok, Bx.R]; done) | (simp [b_pfok, Bx.R]; omega))
  rw [e9] at H48
  have H48 : Hr x b_pfok Z EL1 0 0 h0 [] 99 #[.val (.ref a)] [.int (u8 ((tPre ++ ds).getD 9 0))] := H48
  rw [show u8 ((tPre ++ ds).getD 9 0) = (101 : Int32) by rw [pre_at (by decide)]; decide] at H48
  have H48 : Hr x b_pfok Z EL1 0 0 h0 [] 99 #[.val (.ref a)] [.int (101 : Int32)] := H48
  have H49 : Hr x b_pfok Z EL1 0 0 h0 [] 101 #[.val (.ref a)] [.int (101 : Int32), .int (101 : Int32)] := H48.bipush d_pfok_99
  have H50 : Hr x b_pfok Z EL1 0 0 h0 [] 104 #[.val (.ref a)] [] := H49.icmpF d_pfok_101 (XT.ii_ne_f rfl)
  have H51 : Hr x b_pfok Z EL1 0 0 h0 [] 105 #[.val (.ref a)] [.ref a] := H50.aloadN d_pfok_104
  have H52 : Hr x b_pfok Z EL1 0 0 h0 [] 107 #[.val (.ref a)] [.int (10 : Int32), .ref a] := H51.bipush d_pfok_105
  obtain ⟨_, hc10, _, ⟨rfl, rfl, e10⟩, Kc10, H53⟩ := H52.callV (argsL := [.int (10 : Int32)]) (rest := []) (Wr := 0) (a := a) (ct_scha hw x.l x.nar x.kn hnar h0 a t 10 _ G (by have : tPre.length = 15 := rfl; rw [List.length_append, this]; omega) f hfr P cz O hcz) sub0 G.1 (w202 hw) (w203 hw) (w205 hw) (w205 hw) (w204 hw) (w2 hw) (w206 hw) d_pfok_107 pd_scha rfl (hf := by first | decide | (simp [b_pfok, Bx.R]; done) | (simp [b_pfok, Bx.R]; omega)) (hl := by first | decide | (simp [b_pfok, Bx.R]; done) | (simp [b_pfok, Bx.R]; omega)) (hc := by first | decide | (simp [b_pfok, Bx.R]; done) | (simp [b_pfok, Bx.R]; omega)) (hs := by first | decide | (simp [b_pfok, Bx.R]; done) | (simp [b_pfok, Bx.R]; omega))
  rw [e10] at H53
  have H53 : Hr x b_pfok Z EL1 0 0 h0 [] 110 #[.val (.ref a)] [.int (u8 ((tPre ++ ds).getD 10 0))] := H53
  rw [show u8 ((tPre ++ ds).getD 10 0) = (97 : Int32) by rw [pre_at (by decide)]; decide] at H53
  have H53 : Hr x b_pfok Z EL1 0 0 h0 [] 110 #[.val (.ref a)] [.int (97 : Int32)] := H53
  have H54 : Hr x b_pfok Z EL1 0 0 h0 [] 112 #[.val (.ref a)] [.int (97 : Int32), .int (97 : Int32)] := H53.bipush d_pfok_110
  have H55 : Hr x b_pfok Z EL1 0 0 h0 [] 115 #[.val (.ref a)] [] := H54.icmpF d_pfok_112 (XT.ii_ne_f rfl)
  have H56 : Hr x b_pfok Z EL1 0 0 h0 [] 116 #[.val (.ref a)] [.ref a] := H55.aloadN d_pfok_115
  have H57 : Hr x b_pfok Z EL1 0 0 h0 [] 118 #[.val (.ref a)] [.int (11 : Int32), .ref a] := H56.bipush d_pfok_116
  obtain ⟨_, hc11, _, ⟨rfl, rfl, e11⟩, Kc11, H58⟩ := H57.callV (argsL := [.int (11 : Int32)]) (rest := []) (Wr := 0) (a := a) (ct_scha hw x.l x.nar x.kn hnar h0 a t 11 _ G (by have : tPre.length = 15 := rfl; rw [List.length_append, this]; omega) f hfr P cz O hcz) sub0 G.1 (w202 hw) (w203 hw) (w205 hw) (w205 hw) (w204 hw) (w2 hw) (w206 hw) d_pfok_118 pd_scha rfl (hf := by first | decide | (simp [b_pfok, Bx.R]; done) | (simp [b_pfok, Bx.R]; omega)) (hl := by first | decide | (simp [b_pfok, Bx.R]; done) | (simp [b_pfok, Bx.R]; omega)) (hc := by first | decide | (simp [b_pfok, Bx.R]; done) | (simp [b_pfok, Bx.R]; omega)) (hs := by first | decide | (simp [b_pfok, Bx.R]; done) | (simp [b_pfok, Bx.R]; omega))
  rw [e11] at H58
  have H58 : Hr x b_pfok Z EL1 0 0 h0 [] 121 #[.val (.ref a)] [.int (u8 ((tPre ++ ds).getD 11 0))] := H58
  rw [show u8 ((tPre ++ ds).getD 11 0) = (100 : Int32) by rw [pre_at (by decide)]; decide] at H58
  have H58 : Hr x b_pfok Z EL1 0 0 h0 [] 121 #[.val (.ref a)] [.int (100 : Int32)] := H58
  have H59 : Hr x b_pfok Z EL1 0 0 h0 [] 123 #[.val (.ref a)] [.int (100 : Int32), .int (100 : Int32)] := H58.bipush d_pfok_121
  have H60 : Hr x b_pfok Z EL1 0 0 h0 [] 126 #[.val (.ref a)] [] := H59.icmpF d_pfok_123 (XT.ii_ne_f rfl)
  have H61 : Hr x b_pfok Z EL1 0 0 h0 [] 127 #[.val (.ref a)] [.ref a] := H60.aloadN d_pfok_126
  have H62 : Hr x b_pfok Z EL1 0 0 h0 [] 129 #[.val (.ref a)] [.int (12 : Int32), .ref a] := H61.bipush d_pfok_127
  obtain ⟨_, hc12, _, ⟨rfl, rfl, e12⟩, Kc12, H63⟩ := H62.callV (argsL := [.int (12 : Int32)]) (rest := []) (Wr := 0) (a := a) (ct_scha hw x.l x.nar x.kn hnar h0 a t 12 _ G (by have : tPre.length = 15 := rfl; rw [List.length_append, this]; omega) f hfr P cz O hcz) sub0 G.1 (w202 hw) (w203 hw) (w205 hw) (w205 hw) (w204 hw) (w2 hw) (w206 hw) d_pfok_129 pd_scha rfl (hf := by first | decide | (simp [b_pfok, Bx.R]; done) | (simp [b_pfok, Bx.R]; omega)) (hl := by first | decide | (simp [b_pfok, Bx.R]; done) | (simp [b_pfok, Bx.R]; omega)) (hc := by first | decide | (simp [b_pfok, Bx.R]; done) | (simp [b_pfok, Bx.R]; omega)) (hs := by first | decide | (simp [b_pfok, Bx.R]; done) | (simp [b_pfok, Bx.R]; omega))
  rw [e12] at H63
  have H63 : Hr x b_pfok Z EL1 0 0 h0 [] 132 #[.val (.ref a)] [.int (u8 ((tPre ++ ds).getD 12 0))] := H63
  rw [show u8 ((tPre ++ ds).getD 12 0) = (101 : Int32) by rw [pre_at (by decide)]; decide] at H63
  have H63 : Hr x b_pfok Z EL1 0 0 h0 [] 132 #[.val (.ref a)] [.int (101 : Int32)] := H63
  have H64 : Hr x b_pfok Z EL1 0 0 h0 [] 134 #[.val (.ref a)] [.int (101 : Int32), .int (101 : Int32)] := H63.bipush d_pfok_132
  have H65 : Hr x b_pfok Z EL1 0 0 h0 [] 137 #[.val (.ref a)] [] := H64.icmpF d_pfok_134 (XT.ii_ne_f rfl)
  have H66 : Hr x b_pfok Z EL1 0 0 h0 [] 138 #[.val (.ref a)] [.ref a] := H65.aloadN d_pfok_137
  have H67 : Hr x b_pfok Z EL1 0 0 h0 [] 140 #[.val (.ref a)] [.int (13 : Int32), .ref a] := H66.bipush d_pfok_138
  obtain ⟨_, hc13, _, ⟨rfl, rfl, e13⟩, Kc13, H68⟩ := H67.callV (argsL := [.int (13 : Int32)]) (rest := []) (Wr := 0) (a := a) (ct_scha hw x.l x.nar x.kn hnar h0 a t 13 _ G (by have : tPre.length = 15 := rfl; rw [List.length_append, this]; omega) f hfr P cz O hcz) sub0 G.1 (w202 hw) (w203 hw) (w205 hw) (w205 hw) (w204 hw) (w2 hw) (w206 hw) d_pfok_140 pd_scha rfl (hf := by first | decide | (simp [b_pfok, Bx.R]; done) | (simp [b_pfok, Bx.R]; omega)) (hl := by first | decide | (simp [b_pfok, Bx.R]; done) | (simp [b_pfok, Bx.R]; omega)) (hc := by first | decide | (simp [b_pfok, Bx.R]; done) | (simp [b_pfok, Bx.R]; omega)) (hs := by first | decide | (simp [b_pfok, Bx.R]; done) | (simp [b_pfok, Bx.R]; omega))
  rw [e13] at H68
  have H68 : Hr x b_pfok Z EL1 0 0 h0 [] 143 #[.val (.ref a)] [.int (u8 ((tPre ++ ds).getD 13 0))] := H68
  rw [show u8 ((tPre ++ ds).getD 13 0) = (114 : Int32) by rw [pre_at (by decide)]; decide] at H68
  have H68 : Hr x b_pfok Z EL1 0 0 h0 [] 143 #[.val (.ref a)] [.int (114 : Int32)] := H68
  have H69 : Hr x b_pfok Z EL1 0 0 h0 [] 145 #[.val (.ref a)] [.int (114 : Int32), .int (114 : Int32)] := H68.bipush d_pfok_143
  have H70 : Hr x b_pfok Z EL1 0 0 h0 [] 148 #[.val (.ref a)] [] := H69.icmpF d_pfok_145 (XT.ii_ne_f rfl)
  have H71 : Hr x b_pfok Z EL1 0 0 h0 [] 149 #[.val (.ref a)] [.ref a] := H70.aloadN d_pfok_148
  have H72 : Hr x b_pfok Z EL1 0 0 h0 [] 151 #[.val (.ref a)] [.int (14 : Int32), .ref a] := H71.bipush d_pfok_149
  obtain ⟨_, hc14, _, ⟨rfl, rfl, e14⟩, Kc14, H73⟩ := H72.callV (argsL := [.int (14 : Int32)]) (rest := []) (Wr := 0) (a := a) (ct_scha hw x.l x.nar x.kn hnar h0 a t 14 _ G (by have : tPre.length = 15 := rfl; rw [List.length_append, this]; omega) f hfr P cz O hcz) sub0 G.1 (w202 hw) (w203 hw) (w205 hw) (w205 hw) (w204 hw) (w2 hw) (w206 hw) d_pfok_151 pd_scha rfl (hf := by first | decide | (simp [b_pfok, Bx.R]; done) | (simp [b_pfok, Bx.R]; omega)) (hl := by first | decide | (simp [b_pfok, Bx.R]; done) | (simp [b_pfok, Bx.R]; omega)) (hc := by first | decide | (simp [b_pfok, Bx.R]; done) | (simp [b_pfok, Bx.R]; omega)) (hs := by first | decide | (simp [b_pfok, Bx.R]; done) | (simp [b_pfok, Bx.R]; omega))
  rw [e14] at H73
  have H73 : Hr x b_pfok Z EL1 0 0 h0 [] 154 #[.val (.ref a)] [.int (u8 ((tPre ++ ds).getD 14 0))] := H73
  rw [show u8 ((tPre ++ ds).getD 14 0) = (32 : Int32) by rw [pre_at (by decide)]; decide] at H73
  have H73 : Hr x b_pfok Z EL1 0 0 h0 [] 154 #[.val (.ref a)] [.int (32 : Int32)] := H73
  have H74 : Hr x b_pfok Z EL1 0 0 h0 [] 156 #[.val (.ref a)] [.int (32 : Int32), .int (32 : Int32)] := H73.bipush d_pfok_154
  have H75 : Hr x b_pfok Z EL1 0 0 h0 [] 159 #[.val (.ref a)] [] := H74.icmpF d_pfok_156 (XT.ii_ne_f rfl)
  have H76 : Hr x b_pfok Z EL1 0 0 h0 [] 160 #[.val (.ref a)] [.int (1 : Int32)] := H75.iconst d_pfok_159
  have H77 : Hr x b_pfok Z EL1 0 0 h0 [] 164 #[.val (.ref a)] [.int (1 : Int32)] := H76.goto d_pfok_160
  exact H77.finZ d_pfok_164 (t := .boolean) (by first | rfl | decide) ⟨rfl, rfl, rfl⟩ sub0
theorem and3 (p : Int32) : p &&& 3 = 0 ∨ p &&& 3 = 1 ∨ p &&& 3 = 2 ∨ p &&& 3 = 3 := by
  have h := c_mask p 3 2 (by omega) (by decide)
  have p2 : ((2 ^ 2 : Nat) : Int) = 4 := by decide
  rw [p2] at h
  have e0 : (0 : Int32).toInt = 0 := by decide
  have e1 : (1 : Int32).toInt = 1 := by decide
  have e2 : (2 : Int32).toInt = 2 := by decide
  have e3 : (3 : Int32).toInt = 3 := by decide
  rw [← Int32.toInt_inj, ← Int32.toInt_inj, ← Int32.toInt_inj, ← Int32.toInt_inj]
  omega
def b_at : Bx := (({ frames := 10, cells := 32, slots := 7808, locals := 224 } : Room), (⟨"com/example/rungway/rungway/framework/InstallExceptionInvalidHeaderPinLaw", "law", "(IIII)Z"⟩ : MethodName), code, 11, ret)
theorem ef_at (p0 : Int32) (p1 : Int32) (p2 : Int32) (p3 : Int32) (mI : MethodId) : entryFrame mI #[.int p0, .int p1, .int p2, .int p3] 11 = mkF mI 0 #[.val (.int p0), .val (.int p1), .val (.int p2), .val (.int p3), .unset, .unset, .unset, .unset, .unset, .unset, .unset] [] := by first | (simp [entryFrame, mkF, argsToLocals, Value.category]; done) | rfl
theorem pd_at : parseMethodDescriptor "(IIII)Z" = some ⟨[.int, .int, .int, .int], some .boolean⟩ := by decide +kernel
set_option maxRecDepth 65536 in
set_option maxHeartbeats 4000000 in
theorem ct_law {a0 : Array Value} {Z : State} (hw : ∀ d ∈ tables_1, d.before a0 Z = true) (l : Launch) (nar kn : Bool) (hnr : nar = false) (h0 : Heap) (p0 : Int32) (p1 : Int32) (p2 : Int32) (p3 : Int32) (f : Value) (hfr : f.isRef = true) (P : Sta Z Z.heap "jdk/internal/util/Preconditions" "SIOOBE_FORMATTER" "Ljava/util/function/BiFunction;" f) (hkn0 : kn = true) (hlt : l.stackTraces = true) (us ul : Value) (rs : us.isRef = true) (rl : ul.isRef = true) (S1 : Sta Z Z.heap "java/lang/Throwable" "UNASSIGNED_STACK" "[Ljava/lang/StackTraceElement;" us) (S2 : Sta Z Z.heap "java/lang/Throwable" "SUPPRESSED_SENTINEL" "Ljava/util/List;" ul) (cz : Int32) (O : Sta Z Z.heap "java/lang/String" "COMPACT_STRINGS" "Z" (.int cz)) (hcz : ¬ cz = 0) :
    Ct l Z EL1 (⟨"com/example/rungway/rungway/framework/InstallExceptionInvalidHeaderPinLaw", "law", "(IIII)Z"⟩ : MethodName) code 11 ret ({ frames := 10, cells := 32, slots := 7808, locals := 224 } : Room) #[.int p0, .int p1, .int p2, .int p3] h0 [] nar kn (fun v h sn => v = some (.int 1) ∧ sn = []) := by
  refine Ct.intro (plainFor_of_name pn_com_example_rungway_rungway_framework_InstallExceptionInvalidHeaderPinLaw) (ew hw) (ef_at p0 p1 p2 p3) ?_
  intro x hl hn0 hkn hsf hh H0
  have hnar : x.nar = false := hn0.trans hnr
  have H0 : Hr x b_at Z EL1 0 0 h0 [] 0 #[.val (.int p0), .val (.int p1), .val (.int p2), .val (.int p3), .unset, .unset, .unset, .unset, .unset, .unset, .unset] [] := H0
  obtain ⟨c0, hc0⟩ : ∃ c, c = (p1 &&& 255).toUInt32.toUInt16.toUInt32.toInt32 := ⟨_, rfl⟩
  have r0 : ¬ c0 < 0 ∧ ¬ 255 < c0 := by rw [hc0]; exact chr_rng p1
  obtain ⟨c1, hc1⟩ : ∃ c, c = (p2 &&& 255).toUInt32.toUInt16.toUInt32.toInt32 := ⟨_, rfl⟩
  have r1 : ¬ c1 < 0 ∧ ¬ 255 < c1 := by rw [hc1]; exact chr_rng p2
  obtain ⟨c2, hc2⟩ : ∃ c, c = (p3 &&& 255).toUInt32.toUInt16.toUInt32.toInt32 := ⟨_, rfl⟩
  have r2 : ¬ c2 < 0 ∧ ¬ 255 < c2 := by rw [hc2]; exact chr_rng p3
  have hlp : tPre.length = 15 := rfl
  rcases and3 p0 with hk | hk | hk | hk
  · have z17 := hk
    have H18 : Hr x b_at Z EL1 0 0 h0 [] 1 #[.val (.int p0), .val (.int p1), .val (.int p2), .val (.int p3), .unset, .unset, .unset, .unset, .unset, .unset, .unset] [.int p0] := H0.iloadN at_0
    have H19 : Hr x b_at Z EL1 0 0 h0 [] 2 #[.val (.int p0), .val (.int p1), .val (.int p2), .val (.int p3), .unset, .unset, .unset, .unset, .unset, .unset, .unset] [.int (3 : Int32), .int p0] := H18.iconst at_1
    have H20 : Hr x b_at Z EL1 0 0 h0 [] 3 #[.val (.int p0), .val (.int p1), .val (.int p2), .val (.int p3), .unset, .unset, .unset, .unset, .unset, .unset, .unset] [.int (0 : Int32)] := H19.iand at_2 (hv := hk)
    have H21 : Hr x b_at Z EL1 0 0 h0 [] 5 #[.val (.int p0), .val (.int p1), .val (.int p2), .val (.int p3), .val (.int (0 : Int32)), .unset, .unset, .unset, .unset, .unset, .unset] [] := H20.istore at_3
    have H22 : Hr x b_at Z EL1 0 0 h0 [] 6 #[.val (.int p0), .val (.int p1), .val (.int p2), .val (.int p3), .val (.int (0 : Int32)), .unset, .unset, .unset, .unset, .unset, .unset] [.int p1] := H21.iloadN at_5
    have H23 : Hr x b_at Z EL1 0 0 h0 [] 9 #[.val (.int p0), .val (.int p1), .val (.int p2), .val (.int p3), .val (.int (0 : Int32)), .unset, .unset, .unset, .unset, .unset, .unset] [.int (255 : Int32), .int p1] := H22.sipush at_6
    have H24 : Hr x b_at Z EL1 0 0 h0 [] 10 #[.val (.int p0), .val (.int p1), .val (.int p2), .val (.int p3), .val (.int (0 : Int32)), .unset, .unset, .unset, .unset, .unset, .unset] [.int (p1 &&& (255 : Int32))] := H23.iand at_9
    have H25 : Hr x b_at Z EL1 0 0 h0 [] 11 #[.val (.int p0), .val (.int p1), .val (.int p2), .val (.int p3), .val (.int (0 : Int32)), .unset, .unset, .unset, .unset, .unset, .unset] [.int c0] := H24.i2c at_10 (hv := hc0.symm)
    have H26 : Hr x b_at Z EL1 0 0 h0 [] 13 #[.val (.int p0), .val (.int p1), .val (.int p2), .val (.int p3), .val (.int (0 : Int32)), .val (.int c0), .unset, .unset, .unset, .unset, .unset] [] := H25.istore at_11
    have H27 : Hr x b_at Z EL1 0 0 h0 [] 14 #[.val (.int p0), .val (.int p1), .val (.int p2), .val (.int p3), .val (.int (0 : Int32)), .val (.int c0), .unset, .unset, .unset, .unset, .unset] [.int p2] := H26.iloadN at_13
    have H28 : Hr x b_at Z EL1 0 0 h0 [] 17 #[.val (.int p0), .val (.int p1), .val (.int p2), .val (.int p3), .val (.int (0 : Int32)), .val (.int c0), .unset, .unset, .unset, .unset, .unset] [.int (255 : Int32), .int p2] := H27.sipush at_14
    have H29 : Hr x b_at Z EL1 0 0 h0 [] 18 #[.val (.int p0), .val (.int p1), .val (.int p2), .val (.int p3), .val (.int (0 : Int32)), .val (.int c0), .unset, .unset, .unset, .unset, .unset] [.int (p2 &&& (255 : Int32))] := H28.iand at_17
    have H30 : Hr x b_at Z EL1 0 0 h0 [] 19 #[.val (.int p0), .val (.int p1), .val (.int p2), .val (.int p3), .val (.int (0 : Int32)), .val (.int c0), .unset, .unset, .unset, .unset, .unset] [.int c1] := H29.i2c at_18 (hv := hc1.symm)
    have H31 : Hr x b_at Z EL1 0 0 h0 [] 21 #[.val (.int p0), .val (.int p1), .val (.int p2), .val (.int p3), .val (.int (0 : Int32)), .val (.int c0), .val (.int c1), .unset, .unset, .unset, .unset] [] := H30.istore at_19
    have H32 : Hr x b_at Z EL1 0 0 h0 [] 22 #[.val (.int p0), .val (.int p1), .val (.int p2), .val (.int p3), .val (.int (0 : Int32)), .val (.int c0), .val (.int c1), .unset, .unset, .unset, .unset] [.int p3] := H31.iloadN at_21
    have H33 : Hr x b_at Z EL1 0 0 h0 [] 25 #[.val (.int p0), .val (.int p1), .val (.int p2), .val (.int p3), .val (.int (0 : Int32)), .val (.int c0), .val (.int c1), .unset, .unset, .unset, .unset] [.int (255 : Int32), .int p3] := H32.sipush at_22
    have H34 : Hr x b_at Z EL1 0 0 h0 [] 26 #[.val (.int p0), .val (.int p1), .val (.int p2), .val (.int p3), .val (.int (0 : Int32)), .val (.int c0), .val (.int c1), .unset, .unset, .unset, .unset] [.int (p3 &&& (255 : Int32))] := H33.iand at_25
    have H35 : Hr x b_at Z EL1 0 0 h0 [] 27 #[.val (.int p0), .val (.int p1), .val (.int p2), .val (.int p3), .val (.int (0 : Int32)), .val (.int c0), .val (.int c1), .unset, .unset, .unset, .unset] [.int c2] := H34.i2c at_26 (hv := hc2.symm)
    have H36 : Hr x b_at Z EL1 0 0 h0 [] 29 #[.val (.int p0), .val (.int p1), .val (.int p2), .val (.int p3), .val (.int (0 : Int32)), .val (.int c0), .val (.int c1), .val (.int c2), .unset, .unset, .unset] [] := H35.istore at_27
    have H37 : Hr x b_at Z EL1 0 0 h0 [] 31 #[.val (.int p0), .val (.int p1), .val (.int p2), .val (.int p3), .val (.int (0 : Int32)), .val (.int c0), .val (.int c1), .val (.int c2), .unset, .unset, .unset] [.int (0 : Int32)] := H36.iload at_29
    have H38 : Hr x b_at Z EL1 0 0 h0 [] 34 #[.val (.int p0), .val (.int p1), .val (.int p2), .val (.int p3), .val (.int (0 : Int32)), .val (.int c0), .val (.int c1), .val (.int c2), .unset, .unset, .unset] [] := H37.ifF at_31 (XT.i0_ne_f rfl)
    obtain ⟨h1, E1, ⟨X1, D1, U1⟩, H39⟩ := H38.new (w0 hw) (w1 hw) (w2 hw) at_34 (by first | decide | (simp [b_at, Bx.R]; done) | (simp [b_at, Bx.R]; omega)) (by first | decide | (simp [b_at, Bx.R]; done) | (simp [b_at, Bx.R]; omega))
    obtain ⟨s, g_s⟩ : ∃ z, z = h0.size := ⟨_, rfl⟩
    rw [← g_s] at X1 D1 U1 H39
    have H39 : Hr x b_at Z EL1 1 4 h1 [s] 37 #[.val (.int p0), .val (.int p1), .val (.int p2), .val (.int p3), .val (.int (0 : Int32)), .val (.int c0), .val (.int c1), .val (.int c2), .unset, .unset, .unset] [.ref s] := H39
    have H40 : Hr x b_at Z EL1 1 4 h1 [s] 38 #[.val (.int p0), .val (.int p1), .val (.int p2), .val (.int p3), .val (.int (0 : Int32)), .val (.int c0), .val (.int c1), .val (.int c2), .unset, .unset, .unset] [.ref s, .ref s] := H39.dup at_37
    have H41 : Hr x b_at Z EL1 1 4 h1 [s] 39 #[.val (.int p0), .val (.int p1), .val (.int p2), .val (.int p3), .val (.int (0 : Int32)), .val (.int c0), .val (.int c1), .val (.int c2), .unset, .unset, .unset] [.int (0 : Int32), .ref s, .ref s] := H40.iconst at_38
    have Fcs : Fld Z h1 s "java/lang/String" "coder" "B" (.int 0) := D1 (Or.inr (w17 hw)) (ty := .byte) (by decide)
    have Fvs : Fld Z h1 s "java/lang/String" "value" "[B" .null := D1 (Or.inr (w16 hw)) (ty := .array .byte) (by decide)
    obtain ⟨h2, E2, Fv_, H42⟩ := H41.newarray (aty := .char) (cap := 0) (w3 hw) at_39 (by decide) (by decide) (by decide) (by first | decide | (simp [b_at, Bx.R]; done) | (simp [b_at, Bx.R]; omega)) (by first | decide | (simp [b_at, Bx.R]; done) | (simp [b_at, Bx.R]; omega))
    obtain ⟨av, g_av⟩ : ∃ z, z = h1.size := ⟨_, rfl⟩
    rw [← g_av] at Fv_ H42
    have Fv_ : Ar Z h2 av .char (([] : List Int32).map Value.int) := Fv_
    have H42 : Hr x b_at Z EL1 2 4 h2 [av, s] 41 #[.val (.int p0), .val (.int p1), .val (.int p2), .val (.int p3), .val (.int (0 : Int32)), .val (.int c0), .val (.int c1), .val (.int c2), .unset, .unset, .unset] [.ref av, .ref s, .ref s] := H42
    obtain ⟨_, h3, _, ⟨rfl, rfl, t, S0⟩, K3, H43⟩ := H42.callI (argsL := [.ref av]) (rest := [.ref s]) (Wr := 1) (a := s) (ct_sini1 hw x.l x.nar x.kn hnar h2 s av [] (X1.ext E2) (Fcs.ext E2) (Fvs.ext E2) Fv_ (by simp) hcs0 cz O hcz) (sub1 (by simp)) (w4 hw) (w5 hw) (w2 hw) (w6 hw) at_41 pd_sini1 rfl (hf := by first | decide | (simp [b_at, Bx.R]; done) | (simp [b_at, Bx.R]; omega)) (hl := by first | decide | (simp [b_at, Bx.R]; done) | (simp [b_at, Bx.R]; omega)) (hc := by first | decide | (simp [b_at, Bx.R]; done) | (simp [b_at, Bx.R]; omega)) (hs := by first | decide | (simp [b_at, Bx.R]; done) | (simp [b_at, Bx.R]; omega))
    have H43 : Hr x b_at Z EL1 6 12 h3 [av, s] 44 #[.val (.int p0), .val (.int p1), .val (.int p2), .val (.int p3), .val (.int (0 : Int32)), .val (.int c0), .val (.int c1), .val (.int c2), .unset, .unset, .unset] [.ref s] := H43
    have H44 : Hr x b_at Z EL1 6 12 h3 [av, s] 46 #[.val (.int p0), .val (.int p1), .val (.int p2), .val (.int p3), .val (.int (0 : Int32)), .val (.int c0), .val (.int c1), .val (.int c2), .val (.ref s), .unset, .unset] [] := H43.astore at_44
    have H45 : Hr x b_at Z EL1 6 12 h3 [av, s] 123 #[.val (.int p0), .val (.int p1), .val (.int p2), .val (.int p3), .val (.int (0 : Int32)), .val (.int c0), .val (.int c1), .val (.int c2), .val (.ref s), .unset, .unset] [] := H44.goto at_46
    have H46 : Hr x b_at Z EL1 6 12 h3 [av, s] 125 #[.val (.int p0), .val (.int p1), .val (.int p2), .val (.int p3), .val (.int (0 : Int32)), .val (.int c0), .val (.int c1), .val (.int c2), .val (.ref s), .unset, .unset] [.ref s] := H45.aload at_123
    obtain ⟨_, hi, _, ⟨e, q, u, rfl, rfl, Xe, Me, Sq⟩, Ki, H47⟩ := H46.callS (argsL := [.ref s]) (rest := []) (Wr := 0) (ct_invh hw x.l x.nar x.kn hnar h3 (hkn.trans hkn0) (by rw [hl]; exact hlt) s t (([] : List Int32).map b8) S0 (BL.b8 _) (by simp) us ul rs rl S1 S2 cz O hcz) sub0 (w22 hw) (w23 hw) (w24 hw) (w25 hw) at_125 pd_invh rfl (hf := by first | decide | (simp [b_at, Bx.R]; done) | (simp [b_at, Bx.R]; omega)) (hl := by first | decide | (simp [b_at, Bx.R]; done) | (simp [b_at, Bx.R]; omega)) (hc := by first | decide | (simp [b_at, Bx.R]; done) | (simp [b_at, Bx.R]; omega)) (hs := by first | decide | (simp [b_at, Bx.R]; done) | (simp [b_at, Bx.R]; omega))
    have H47 : Hr x b_at Z EL1 15 2910 hi [av, s] 128 #[.val (.int p0), .val (.int p1), .val (.int p2), .val (.int p3), .val (.int (0 : Int32)), .val (.int c0), .val (.int c1), .val (.int c2), .val (.ref s), .unset, .unset] [.ref e] := H47
    have H48 : Hr x b_at Z EL1 15 2910 hi [av, s] 130 #[.val (.int p0), .val (.int p1), .val (.int p2), .val (.int p3), .val (.int (0 : Int32)), .val (.int c0), .val (.int c1), .val (.int c2), .val (.ref s), .val (.ref e), .unset] [] := H47.astore at_128
    have H49 : Hr x b_at Z EL1 15 2910 hi [av, s] 132 #[.val (.int p0), .val (.int p1), .val (.int p2), .val (.int p3), .val (.int (0 : Int32)), .val (.int c0), .val (.int c1), .val (.int c2), .val (.ref s), .val (.ref e), .unset] [.ref e] := H48.aload at_130
    have H50 : Hr x b_at Z EL1 15 2910 hi [av, s] 137 #[.val (.int p0), .val (.int p1), .val (.int p2), .val (.int p3), .val (.int (0 : Int32)), .val (.int c0), .val (.int c1), .val (.int c2), .val (.ref s), .val (.ref e), .unset] [] := H49.ifnonnullT at_132
    have H51 : Hr x b_at Z EL1 15 2910 hi [av, s] 139 #[.val (.int p0), .val (.int p1), .val (.int p2), .val (.int p3), .val (.int (0 : Int32)), .val (.int c0), .val (.int c1), .val (.int c2), .val (.ref s), .val (.ref e), .unset] [.ref e] := H50.aload at_137
    obtain ⟨_, hj, _, ⟨rfl, rfl, ej⟩, Kj, H52⟩ := H51.callUp (argsL := []) (rest := []) (Wr := 0) (a := e) (ct_gmsg hw x.l x.nar x.kn hnar hi e q Me) sub0 Xe (w191 hw) (w192 hw) (w193 hw) (w195 hw) (w194 hw) (w152 hw) (w196 hw) at_139 pd_gmsg rfl
    rw [ej] at H52
    have H52 : Hr x b_at Z EL1 15 2910 hi [av, s] 142 #[.val (.int p0), .val (.int p1), .val (.int p2), .val (.int p3), .val (.int (0 : Int32)), .val (.int c0), .val (.int c1), .val (.int c2), .val (.ref s), .val (.ref e), .unset] [.ref q] := H52
    have H53 : Hr x b_at Z EL1 15 2910 hi [av, s] 144 #[.val (.int p0), .val (.int p1), .val (.int p2), .val (.int p3), .val (.int (0 : Int32)), .val (.int c0), .val (.int c1), .val (.int c2), .val (.ref s), .val (.ref e), .val (.ref q)] [] := H52.astore at_142
    have H54 : Hr x b_at Z EL1 15 2910 hi [av, s] 146 #[.val (.int p0), .val (.int p1), .val (.int p2), .val (.int p3), .val (.int (0 : Int32)), .val (.int c0), .val (.int c1), .val (.int c2), .val (.ref s), .val (.ref e), .val (.ref q)] [.ref q] := H53.aload at_144
    have H55 : Hr x b_at Z EL1 15 2910 hi [av, s] 151 #[.val (.int p0), .val (.int p1), .val (.int p2), .val (.int p3), .val (.int (0 : Int32)), .val (.int c0), .val (.int c1), .val (.int c2), .val (.ref s), .val (.ref e), .val (.ref q)] [] := H54.ifnonnullT at_146
    have H56 : Hr x b_at Z EL1 15 2910 hi [av, s] 153 #[.val (.int p0), .val (.int p1), .val (.int p2), .val (.int p3), .val (.int (0 : Int32)), .val (.int c0), .val (.int c1), .val (.int c2), .val (.ref s), .val (.ref e), .val (.ref q)] [.ref q] := H55.aload at_151
    obtain ⟨_, hm, _, ⟨rfl, rfl, em⟩, Km, H57⟩ := H56.callV (argsL := []) (rest := []) (Wr := 0) (a := q) (ct_slen hw x.l x.nar x.kn hnar hi q u _ Sq cz O hcz) sub0 Sq.1 (w197 hw) (w58 hw) (w60 hw) (w60 hw) (w59 hw) (w2 hw) (w61 hw) at_153 pd_slen rfl (hf := by first | decide | (simp [b_at, Bx.R]; done) | (simp [b_at, Bx.R]; omega)) (hl := by first | decide | (simp [b_at, Bx.R]; done) | (simp [b_at, Bx.R]; omega)) (hc := by first | decide | (simp [b_at, Bx.R]; done) | (simp [b_at, Bx.R]; omega)) (hs := by first | decide | (simp [b_at, Bx.R]; done) | (simp [b_at, Bx.R]; omega))
    rw [em] at H57
    have H57 : Hr x b_at Z EL1 15 2910 hi [av, s] 156 #[.val (.int p0), .val (.int p1), .val (.int p2), .val (.int p3), .val (.int (0 : Int32)), .val (.int c0), .val (.int c1), .val (.int c2), .val (.ref s), .val (.ref e), .val (.ref q)] [.int (Int32.ofNat (tPre ++ (([] : List Int32).map b8)).length)] := H57
    have H58 : Hr x b_at Z EL1 15 2910 hi [av, s] 158 #[.val (.int p0), .val (.int p1), .val (.int p2), .val (.int p3), .val (.int (0 : Int32)), .val (.int c0), .val (.int c1), .val (.int c2), .val (.ref s), .val (.ref e), .val (.ref q)] [.int (15 : Int32), .int (Int32.ofNat (tPre ++ (([] : List Int32).map b8)).length)] := H57.bipush at_156
    have H59 : Hr x b_at Z EL1 15 2910 hi [av, s] 160 #[.val (.int p0), .val (.int p1), .val (.int p2), .val (.int p3), .val (.int (0 : Int32)), .val (.int c0), .val (.int c1), .val (.int c2), .val (.ref s), .val (.ref e), .val (.ref q)] [.int (0 : Int32), .int (15 : Int32), .int (Int32.ofNat (tPre ++ (([] : List Int32).map b8)).length)] := H58.iload at_158
    have H60 : Hr x b_at Z EL1 15 2910 hi [av, s] 161 #[.val (.int p0), .val (.int p1), .val (.int p2), .val (.int p3), .val (.int (0 : Int32)), .val (.int c0), .val (.int c1), .val (.int c2), .val (.ref s), .val (.ref e), .val (.ref q)] [.int ((15 : Int32) + (0 : Int32)), .int (Int32.ofNat (tPre ++ (([] : List Int32).map b8)).length)] := H59.iadd at_160
    have H61 : Hr x b_at Z EL1 15 2910 hi [av, s] 166 #[.val (.int p0), .val (.int p1), .val (.int p2), .val (.int p3), .val (.int (0 : Int32)), .val (.int c0), .val (.int c1), .val (.int c2), .val (.ref s), .val (.ref e), .val (.ref q)] [] := H60.icmpT at_161 (XT.ii_eq_t (by first | rfl | decide))
    have H62 : Hr x b_at Z EL1 15 2910 hi [av, s] 168 #[.val (.int p0), .val (.int p1), .val (.int p2), .val (.int p3), .val (.int (0 : Int32)), .val (.int c0), .val (.int c1), .val (.int c2), .val (.ref s), .val (.ref e), .val (.ref q)] [.ref q] := H61.aload at_166
    obtain ⟨_, ho, _, ⟨rfl, rfl, eo⟩, Ko, H63⟩ := H62.callS (argsL := [.ref q]) (rest := []) (Wr := 0) (ct_pfok hw x.l x.nar x.kn hnar hi q u _ Sq f hfr P cz O hcz) sub0 (w198 hw) (w199 hw) (w200 hw) (w201 hw) at_168 pd_pfok rfl (hf := by first | decide | (simp [b_at, Bx.R]; done) | (simp [b_at, Bx.R]; omega)) (hl := by first | decide | (simp [b_at, Bx.R]; done) | (simp [b_at, Bx.R]; omega)) (hc := by first | decide | (simp [b_at, Bx.R]; done) | (simp [b_at, Bx.R]; omega)) (hs := by first | decide | (simp [b_at, Bx.R]; done) | (simp [b_at, Bx.R]; omega))
    rw [eo] at H63
    have H63 : Hr x b_at Z EL1 15 2910 hi [av, s] 171 #[.val (.int p0), .val (.int p1), .val (.int p2), .val (.int p3), .val (.int (0 : Int32)), .val (.int c0), .val (.int c1), .val (.int c2), .val (.ref s), .val (.ref e), .val (.ref q)] [.int (1 : Int32)] := H63
    have H64 : Hr x b_at Z EL1 15 2910 hi [av, s] 176 #[.val (.int p0), .val (.int p1), .val (.int p2), .val (.int p3), .val (.int (0 : Int32)), .val (.int c0), .val (.int c1), .val (.int c2), .val (.ref s), .val (.ref e), .val (.ref q)] [] := H63.ifT at_171 (XT.i0_ne_t (by decide))
    have H65 : Hr x b_at Z EL1 15 2910 hi [av, s] 178 #[.val (.int p0), .val (.int p1), .val (.int p2), .val (.int p3), .val (.int (0 : Int32)), .val (.int c0), .val (.int c1), .val (.int c2), .val (.ref s), .val (.ref e), .val (.ref q)] [.int (0 : Int32)] := H64.iload at_176
    have H66 : Hr x b_at Z EL1 15 2910 hi [av, s] 179 #[.val (.int p0), .val (.int p1), .val (.int p2), .val (.int p3), .val (.int (0 : Int32)), .val (.int c0), .val (.int c1), .val (.int c2), .val (.ref s), .val (.ref e), .val (.ref q)] [.int (1 : Int32), .int (0 : Int32)] := H65.iconst at_178
    have H67 : Hr x b_at Z EL1 15 2910 hi [av, s] 196 #[.val (.int p0), .val (.int p1), .val (.int p2), .val (.int p3), .val (.int (0 : Int32)), .val (.int c0), .val (.int c1), .val (.int c2), .val (.ref s), .val (.ref e), .val (.ref q)] [] := H66.icmpT at_179 (XT.ii_lt_t (by decide))
    have H68 : Hr x b_at Z EL1 15 2910 hi [av, s] 198 #[.val (.int p0), .val (.int p1), .val (.int p2), .val (.int p3), .val (.int (0 : Int32)), .val (.int c0), .val (.int c1), .val (.int c2), .val (.ref s), .val (.ref e), .val (.ref q)] [.int (0 : Int32)] := H67.iload at_196
    have H69 : Hr x b_at Z EL1 15 2910 hi [av, s] 199 #[.val (.int p0), .val (.int p1), .val (.int p2), .val (.int p3), .val (.int (0 : Int32)), .val (.int c0), .val (.int c1), .val (.int c2), .val (.ref s), .val (.ref e), .val (.ref q)] [.int (2 : Int32), .int (0 : Int32)] := H68.iconst at_198
    have H70 : Hr x b_at Z EL1 15 2910 hi [av, s] 216 #[.val (.int p0), .val (.int p1), .val (.int p2), .val (.int p3), .val (.int (0 : Int32)), .val (.int c0), .val (.int c1), .val (.int c2), .val (.ref s), .val (.ref e), .val (.ref q)] [] := H69.icmpT at_199 (XT.ii_lt_t (by decide))
    have H71 : Hr x b_at Z EL1 15 2910 hi [av, s] 218 #[.val (.int p0), .val (.int p1), .val (.int p2), .val (.int p3), .val (.int (0 : Int32)), .val (.int c0), .val (.int c1), .val (.int c2), .val (.ref s), .val (.ref e), .val (.ref q)] [.int (0 : Int32)] := H70.iload at_216
    have H72 : Hr x b_at Z EL1 15 2910 hi [av, s] 219 #[.val (.int p0), .val (.int p1), .val (.int p2), .val (.int p3), .val (.int (0 : Int32)), .val (.int c0), .val (.int c1), .val (.int c2), .val (.ref s), .val (.ref e), .val (.ref q)] [.int (3 : Int32), .int (0 : Int32)] := H71.iconst at_218
    have H73 : Hr x b_at Z EL1 15 2910 hi [av, s] 236 #[.val (.int p0), .val (.int p1), .val (.int p2), .val (.int p3), .val (.int (0 : Int32)), .val (.int c0), .val (.int c1), .val (.int c2), .val (.ref s), .val (.ref e), .val (.ref q)] [] := H72.icmpT at_219 (XT.ii_lt_t (by decide))
    have H74 : Hr x b_at Z EL1 15 2910 hi [av, s] 237 #[.val (.int p0), .val (.int p1), .val (.int p2), .val (.int p3), .val (.int (0 : Int32)), .val (.int c0), .val (.int c1), .val (.int c2), .val (.ref s), .val (.ref e), .val (.ref q)] [.int (1 : Int32)] := H73.iconst at_236
    exact H74.finZ at_237 (t := .boolean) (by first | rfl | decide) ⟨rfl, rfl⟩ sub0
  · have z74 := hk
    have H75 : Hr x b_at Z EL1 0 0 h0 [] 1 #[.val (.int p0), .val (.int p1), .val (.int p2), .val (.int p3), .unset, .unset, .unset, .unset, .unset, .unset, .unset] [.int p0] := H0.iloadN at_0
    have H76 : Hr x b_at Z EL1 0 0 h0 [] 2 #[.val (.int p0), .val (.int p1), .val (.int p2), .val (.int p3), .unset, .unset, .unset, .unset, .unset, .unset, .unset] [.int (3 : Int32), .int p0] := H75.iconst at_1
    have H77 : Hr x b_at Z EL1 0 0 h0 [] 3 #[.val (.int p0), .val (.int p1), .val (.int p2), .val (.int p3), .unset, .unset, .unset, .unset, .unset, .unset, .unset] [.int (1 : Int32)] := H76.iand at_2 (hv := hk)
    have H78 : Hr x b_at Z EL1 0 0 h0 [] 5 #[.val (.int p0), .val (.int p1), .val (.int p2), .val (.int p3), .val (.int (1 : Int32)), .unset, .unset, .unset, .unset, .unset, .unset] [] := H77.istore at_3
    have H79 : Hr x b_at Z EL1 0 0 h0 [] 6 #[.val (.int p0), .val (.int p1), .val (.int p2), .val (.int p3), .val (.int (1 : Int32)), .unset, .unset, .unset, .unset, .unset, .unset] [.int p1] := H78.iloadN at_5
    have H80 : Hr x b_at Z EL1 0 0 h0 [] 9 #[.val (.int p0), .val (.int p1), .val (.int p2), .val (.int p3), .val (.int (1 : Int32)), .unset, .unset, .unset, .unset, .unset, .unset] [.int (255 : Int32), .int p1] := H79.sipush at_6
    have H81 : Hr x b_at Z EL1 0 0 h0 [] 10 #[.val (.int p0), .val (.int p1), .val (.int p2), .val (.int p3), .val (.int (1 : Int32)), .unset, .unset, .unset, .unset, .unset, .unset] [.int (p1 &&& (255 : Int32))] := H80.iand at_9
    have H82 : Hr x b_at Z EL1 0 0 h0 [] 11 #[.val (.int p0), .val (.int p1), .val (.int p2), .val (.int p3), .val (.int (1 : Int32)), .unset, .unset, .unset, .unset, .unset, .unset] [.int c0] := H81.i2c at_10 (hv := hc0.symm)
    have H83 : Hr x b_at Z EL1 0 0 h0 [] 13 #[.val (.int p0), .val (.int p1), .val (.int p2), .val (.int p3), .val (.int (1 : Int32)), .val (.int c0), .unset, .unset, .unset, .unset, .unset] [] := H82.istore at_11
    have H84 : Hr x b_at Z EL1 0 0 h0 [] 14 #[.val (.int p0), .val (.int p1), .val (.int p2), .val (.int p3), .val (.int (1 : Int32)), .val (.int c0), .unset, .unset, .unset, .unset, .unset] [.int p2] := H83.iloadN at_13
    have H85 : Hr x b_at Z EL1 0 0 h0 [] 17 #[.val (.int p0), .val (.int p1), .val (.int p2), .val (.int p3), .val (.int (1 : Int32)), .val (.int c0), .unset, .unset, .unset, .unset, .unset] [.int (255 : Int32), .int p2] := H84.sipush at_14
    have H86 : Hr x b_at Z EL1 0 0 h0 [] 18 #[.val (.int p0), .val (.int p1), .val (.int p2), .val (.int p3), .val (.int (1 : Int32)), .val (.int c0), .unset, .unset, .unset, .unset, .unset] [.int (p2 &&& (255 : Int32))] := H85.iand at_17
    have H87 : Hr x b_at Z EL1 0 0 h0 [] 19 #[.val (.int p0), .val (.int p1), .val (.int p2), .val (.int p3), .val (.int (1 : Int32)), .val (.int c0), .unset, .unset, .unset, .unset, .unset] [.int c1] := H86.i2c at_18 (hv := hc1.symm)
    have H88 : Hr x b_at Z EL1 0 0 h0 [] 21 #[.val (.int p0), .val (.int p1), .val (.int p2), .val (.int p3), .val (.int (1 : Int32)), .val (.int c0), .val (.int c1), .unset, .unset, .unset, .unset] [] := H87.istore at_19
    have H89 : Hr x b_at Z EL1 0 0 h0 [] 22 #[.val (.int p0), .val (.int p1), .val (.int p2), .val (.int p3), .val (.int (1 : Int32)), .val (.int c0), .val (.int c1), .unset, .unset, .unset, .unset] [.int p3] := H88.iloadN at_21
    have H90 : Hr x b_at Z EL1 0 0 h0 [] 25 #[.val (.int p0), .val (.int p1), .val (.int p2), .val (.int p3), .val (.int (1 : Int32)), .val (.int c0), .val (.int c1), .unset, .unset, .unset, .unset] [.int (255 : Int32), .int p3] := H89.sipush at_22
    have H91 : Hr x b_at Z EL1 0 0 h0 [] 26 #[.val (.int p0), .val (.int p1), .val (.int p2), .val (.int p3), .val (.int (1 : Int32)), .val (.int c0), .val (.int c1), .unset, .unset, .unset, .unset] [.int (p3 &&& (255 : Int32))] := H90.iand at_25
    have H92 : Hr x b_at Z EL1 0 0 h0 [] 27 #[.val (.int p0), .val (.int p1), .val (.int p2), .val (.int p3), .val (.int (1 : Int32)), .val (.int c0), .val (.int c1), .unset, .unset, .unset, .unset] [.int c2] := H91.i2c at_26 (hv := hc2.symm)
    have H93 : Hr x b_at Z EL1 0 0 h0 [] 29 #[.val (.int p0), .val (.int p1), .val (.int p2), .val (.int p3), .val (.int (1 : Int32)), .val (.int c0), .val (.int c1), .val (.int c2), .unset, .unset, .unset] [] := H92.istore at_27
    have H94 : Hr x b_at Z EL1 0 0 h0 [] 31 #[.val (.int p0), .val (.int p1), .val (.int p2), .val (.int p3), .val (.int (1 : Int32)), .val (.int c0), .val (.int c1), .val (.int c2), .unset, .unset, .unset] [.int (1 : Int32)] := H93.iload at_29
    have H95 : Hr x b_at Z EL1 0 0 h0 [] 49 #[.val (.int p0), .val (.int p1), .val (.int p2), .val (.int p3), .val (.int (1 : Int32)), .val (.int c0), .val (.int c1), .val (.int c2), .unset, .unset, .unset] [] := H94.ifT at_31 (XT.i0_ne_t (by decide))
    have H96 : Hr x b_at Z EL1 0 0 h0 [] 51 #[.val (.int p0), .val (.int p1), .val (.int p2), .val (.int p3), .val (.int (1 : Int32)), .val (.int c0), .val (.int c1), .val (.int c2), .unset, .unset, .unset] [.int (1 : Int32)] := H95.iload at_49
    have H97 : Hr x b_at Z EL1 0 0 h0 [] 52 #[.val (.int p0), .val (.int p1), .val (.int p2), .val (.int p3), .val (.int (1 : Int32)), .val (.int c0), .val (.int c1), .val (.int c2), .unset, .unset, .unset] [.int (1 : Int32), .int (1 : Int32)] := H96.iconst at_51
    have H98 : Hr x b_at Z EL1 0 0 h0 [] 55 #[.val (.int p0), .val (.int p1), .val (.int p2), .val (.int p3), .val (.int (1 : Int32)), .val (.int c0), .val (.int c1), .val (.int c2), .unset, .unset, .unset] [] := H97.icmpF at_52 (XT.ii_ne_f rfl)
    have H99 : Hr x b_at Z EL1 0 0 h0 [] 57 #[.val (.int p0), .val (.int p1), .val (.int p2), .val (.int p3), .val (.int (1 : Int32)), .val (.int c0), .val (.int c1), .val (.int c2), .unset, .unset, .unset] [.int c0] := H98.iload at_55
    obtain ⟨_, h1, _, ⟨s, t, rfl, rfl, S0⟩, K1, H100⟩ := H99.callS (argsL := [.int c0]) (rest := []) (Wr := 0) (ct_vof hw x.l x.nar x.kn hnar h0 c0 r0 cz O hcz) sub0 (w251 hw) (w252 hw) (w2 hw) (w253 hw) at_57 pd_vof rfl (hf := by first | decide | (simp [b_at, Bx.R]; done) | (simp [b_at, Bx.R]; omega)) (hl := by first | decide | (simp [b_at, Bx.R]; done) | (simp [b_at, Bx.R]; omega)) (hc := by first | decide | (simp [b_at, Bx.R]; done) | (simp [b_at, Bx.R]; omega)) (hs := by first | decide | (simp [b_at, Bx.R]; done) | (simp [b_at, Bx.R]; omega))
    have H100 : Hr x b_at Z EL1 2 5 h1 [] 60 #[.val (.int p0), .val (.int p1), .val (.int p2), .val (.int p3), .val (.int (1 : Int32)), .val (.int c0), .val (.int c1), .val (.int c2), .unset, .unset, .unset] [.ref s] := H100
    have H101 : Hr x b_at Z EL1 2 5 h1 [] 62 #[.val (.int p0), .val (.int p1), .val (.int p2), .val (.int p3), .val (.int (1 : Int32)), .val (.int c0), .val (.int c1), .val (.int c2), .val (.ref s), .unset, .unset] [] := H100.astore at_60
    have H102 : Hr x b_at Z EL1 2 5 h1 [] 123 #[.val (.int p0), .val (.int p1), .val (.int p2), .val (.int p3), .val (.int (1 : Int32)), .val (.int c0), .val (.int c1), .val (.int c2), .val (.ref s), .unset, .unset] [] := H101.goto at_62
    have H103 : Hr x b_at Z EL1 2 5 h1 [] 125 #[.val (.int p0), .val (.int p1), .val (.int p2), .val (.int p3), .val (.int (1 : Int32)), .val (.int c0), .val (.int c1), .val (.int c2), .val (.ref s), .unset, .unset] [.ref s] := H102.aload at_123
    obtain ⟨_, hi, _, ⟨e, q, u, rfl, rfl, Xe, Me, Sq⟩, Ki, H104⟩ := H103.callS (argsL := [.ref s]) (rest := []) (Wr := 0) (ct_invh hw x.l x.nar x.kn hnar h1 (hkn.trans hkn0) (by rw [hl]; exact hlt) s t ([c0].map b8) S0 (BL.b8 _) (by simp) us ul rs rl S1 S2 cz O hcz) sub0 (w22 hw) (w23 hw) (w24 hw) (w25 hw) at_125 pd_invh rfl (hf := by first | decide | (simp [b_at, Bx.R]; done) | (simp [b_at, Bx.R]; omega)) (hl := by first | decide | (simp [b_at, Bx.R]; done) | (simp [b_at, Bx.R]; omega)) (hc := by first | decide | (simp [b_at, Bx.R]; done) | (simp [b_at, Bx.R]; omega)) (hs := by first | decide | (simp [b_at, Bx.R]; done) | (simp [b_at, Bx.R]; omega))
    have H104 : Hr x b_at Z EL1 11 2903 hi [] 128 #[.val (.int p0), .val (.int p1), .val (.int p2), .val (.int p3), .val (.int (1 : Int32)), .val (.int c0), .val (.int c1), .val (.int c2), .val (.ref s), .unset, .unset] [.ref e] := H104
    have H105 : Hr x b_at Z EL1 11 2903 hi [] 130 #[.val (.int p0), .val (.int p1), .val (.int p2), .val (.int p3), .val (.int (1 : Int32)), .val (.int c0), .val (.int c1), .val (.int c2), .val (.ref s), .val (.ref e), .unset] [] := H104.astore at_128
    have H106 : Hr x b_at Z EL1 11 2903 hi [] 132 #[.val (.int p0), .val (.int p1), .val (.int p2), .val (.int p3), .val (.int (1 : Int32)), .val (.int c0), .val (.int c1), .val (.int c2), .val (.ref s), .val (.ref e), .unset] [.ref e] := H105.aload at_130
    have H107 : Hr x b_at Z EL1 11 2903 hi [] 137 #[.val (.int p0), .val (.int p1), .val (.int p2), .val (.int p3), .val (.int (1 : Int32)), .val (.int c0), .val (.int c1), .val (.int c2), .val (.ref s), .val (.ref e), .unset] [] := H106.ifnonnullT at_132
    have H108 : Hr x b_at Z EL1 11 2903 hi [] 139 #[.val (.int p0), .val (.int p1), .val (.int p2), .val (.int p3), .val (.int (1 : Int32)), .val (.int c0), .val (.int c1), .val (.int c2), .val (.ref s), .val (.ref e), .unset] [.ref e] := H107.aload at_137
    obtain ⟨_, hj, _, ⟨rfl, rfl, ej⟩, Kj, H109⟩ := H108.callUp (argsL := []) (rest := []) (Wr := 0) (a := e) (ct_gmsg hw x.l x.nar x.kn hnar hi e q Me) sub0 Xe (w191 hw) (w192 hw) (w193 hw) (w195 hw) (w194 hw) (w152 hw) (w196 hw) at_139 pd_gmsg rfl
    rw [ej] at H109
    have H109 : Hr x b_at Z EL1 11 2903 hi [] 142 #[.val (.int p0), .val (.int p1), .val (.int p2), .val (.int p3), .val (.int (1 : Int32)), .val (.int c0), .val (.int c1), .val (.int c2), .val (.ref s), .val (.ref e), .unset] [.ref q] := H109
    have H110 : Hr x b_at Z EL1 11 2903 hi [] 144 #[.val (.int p0), .val (.int p1), .val (.int p2), .val (.int p3), .val (.int (1 : Int32)), .val (.int c0), .val (.int c1), .val (.int c2), .val (.ref s), .val (.ref e), .val (.ref q)] [] := H109.astore at_142
    have H111 : Hr x b_at Z EL1 11 2903 hi [] 146 #[.val (.int p0), .val (.int p1), .val (.int p2), .val (.int p3), .val (.int (1 : Int32)), .val (.int c0), .val (.int c1), .val (.int c2), .val (.ref s), .val (.ref e), .val (.ref q)] [.ref q] := H110.aload at_144
    have H112 : Hr x b_at Z EL1 11 2903 hi [] 151 #[.val (.int p0), .val (.int p1), .val (.int p2), .val (.int p3), .val (.int (1 : Int32)), .val (.int c0), .val (.int c1), .val (.int c2), .val (.ref s), .val (.ref e), .val (.ref q)] [] := H111.ifnonnullT at_146
    have H113 : Hr x b_at Z EL1 11 2903 hi [] 153 #[.val (.int p0), .val (.int p1), .val (.int p2), .val (.int p3), .val (.int (1 : Int32)), .val (.int c0), .val (.int c1), .val (.int c2), .val (.ref s), .val (.ref e), .val (.ref q)] [.ref q] := H112.aload at_151
    obtain ⟨_, hm, _, ⟨rfl, rfl, em⟩, Km, H114⟩ := H113.callV (argsL := []) (rest := []) (Wr := 0) (a := q) (ct_slen hw x.l x.nar x.kn hnar hi q u _ Sq cz O hcz) sub0 Sq.1 (w197 hw) (w58 hw) (w60 hw) (w60 hw) (w59 hw) (w2 hw) (w61 hw) at_153 pd_slen rfl (hf := by first | decide | (simp [b_at, Bx.R]; done) | (simp [b_at, Bx.R]; omega)) (hl := by first | decide | (simp [b_at, Bx.R]; done) | (simp [b_at, Bx.R]; omega)) (hc := by first | decide | (simp [b_at, Bx.R]; done) | (simp [b_at, Bx.R]; omega)) (hs := by first | decide | (simp [b_at, Bx.R]; done) | (simp [b_at, Bx.R]; omega))
    rw [em] at H114
    have H114 : Hr x b_at Z EL1 11 2903 hi [] 156 #[.val (.int p0), .val (.int p1), .val (.int p2), .val (.int p3), .val (.int (1 : Int32)), .val (.int c0), .val (.int c1), .val (.int c2), .val (.ref s), .val (.ref e), .val (.ref q)] [.int (Int32.ofNat (tPre ++ ([c0].map b8)).length)] := H114
    have H115 : Hr x b_at Z EL1 11 2903 hi [] 158 #[.val (.int p0), .val (.int p1), .val (.int p2), .val (.int p3), .val (.int (1 : Int32)), .val (.int c0), .val (.int c1), .val (.int c2), .val (.ref s), .val (.ref e), .val (.ref q)] [.int (15 : Int32), .int (Int32.ofNat (tPre ++ ([c0].map b8)).length)] := H114.bipush at_156
    have H116 : Hr x b_at Z EL1 11 2903 hi [] 160 #[.val (.int p0), .val (.int p1), .val (.int p2), .val (.int p3), .val (.int (1 : Int32)), .val (.int c0), .val (.int c1), .val (.int c2), .val (.ref s), .val (.ref e), .val (.ref q)] [.int (1 : Int32), .int (15 : Int32), .int (Int32.ofNat (tPre ++ ([c0].map b8)).length)] := H115.iload at_158
    have H117 : Hr x b_at Z EL1 11 2903 hi [] 161 #[.val (.int p0), .val (.int p1), .val (.int p2), .val (.int p3), .val (.int (1 : Int32)), .val (.int c0), .val (.int c1), .val (.int c2), .val (.ref s), .val (.ref e), .val (.ref q)] [.int ((15 : Int32) + (1 : Int32)), .int (Int32.ofNat (tPre ++ ([c0].map b8)).length)] := H116.iadd at_160
    have H118 : Hr x b_at Z EL1 11 2903 hi [] 166 #[.val (.int p0), .val (.int p1), .val (.int p2), .val (.int p3), .val (.int (1 : Int32)), .val (.int c0), .val (.int c1), .val (.int c2), .val (.ref s), .val (.ref e), .val (.ref q)] [] := H117.icmpT at_161 (XT.ii_eq_t (by first | rfl | decide))
    have H119 : Hr x b_at Z EL1 11 2903 hi [] 168 #[.val (.int p0), .val (.int p1), .val (.int p2), .val (.int p3), .val (.int (1 : Int32)), .val (.int c0), .val (.int c1), .val (.int c2), .val (.ref s), .val (.ref e), .val (.ref q)] [.ref q] := H118.aload at_166
    obtain ⟨_, ho, _, ⟨rfl, rfl, eo⟩, Ko, H120⟩ := H119.callS (argsL := [.ref q]) (rest := []) (Wr := 0) (ct_pfok hw x.l x.nar x.kn hnar hi q u _ Sq f hfr P cz O hcz) sub0 (w198 hw) (w199 hw) (w200 hw) (w201 hw) at_168 pd_pfok rfl (hf := by first | decide | (simp [b_at, Bx.R]; done) | (simp [b_at, Bx.R]; omega)) (hl := by first | decide | (simp [b_at, Bx.R]; done) | (simp [b_at, Bx.R]; omega)) (hc := by first | decide | (simp [b_at, Bx.R]; done) | (simp [b_at, Bx.R]; omega)) (hs := by first | decide | (simp [b_at, Bx.R]; done) | (simp [b_at, Bx.R]; omega))
    rw [eo] at H120
    have H120 : Hr x b_at Z EL1 11 2903 hi [] 171 #[.val (.int p0), .val (.int p1), .val (.int p2), .val (.int p3), .val (.int (1 : Int32)), .val (.int c0), .val (.int c1), .val (.int c2), .val (.ref s), .val (.ref e), .val (.ref q)] [.int (1 : Int32)] := H120
    have H121 : Hr x b_at Z EL1 11 2903 hi [] 176 #[.val (.int p0), .val (.int p1), .val (.int p2), .val (.int p3), .val (.int (1 : Int32)), .val (.int c0), .val (.int c1), .val (.int c2), .val (.ref s), .val (.ref e), .val (.ref q)] [] := H120.ifT at_171 (XT.i0_ne_t (by decide))
    have H122 : Hr x b_at Z EL1 11 2903 hi [] 178 #[.val (.int p0), .val (.int p1), .val (.int p2), .val (.int p3), .val (.int (1 : Int32)), .val (.int c0), .val (.int c1), .val (.int c2), .val (.ref s), .val (.ref e), .val (.ref q)] [.int (1 : Int32)] := H121.iload at_176
    have H123 : Hr x b_at Z EL1 11 2903 hi [] 179 #[.val (.int p0), .val (.int p1), .val (.int p2), .val (.int p3), .val (.int (1 : Int32)), .val (.int c0), .val (.int c1), .val (.int c2), .val (.ref s), .val (.ref e), .val (.ref q)] [.int (1 : Int32), .int (1 : Int32)] := H122.iconst at_178
    have H124 : Hr x b_at Z EL1 11 2903 hi [] 182 #[.val (.int p0), .val (.int p1), .val (.int p2), .val (.int p3), .val (.int (1 : Int32)), .val (.int c0), .val (.int c1), .val (.int c2), .val (.ref s), .val (.ref e), .val (.ref q)] [] := H123.icmpF at_179 (XT.ii_lt_f fun z => absurd z (by decide))
    have H125 : Hr x b_at Z EL1 11 2903 hi [] 184 #[.val (.int p0), .val (.int p1), .val (.int p2), .val (.int p3), .val (.int (1 : Int32)), .val (.int c0), .val (.int c1), .val (.int c2), .val (.ref s), .val (.ref e), .val (.ref q)] [.ref q] := H124.aload at_182
    have H126 : Hr x b_at Z EL1 11 2903 hi [] 186 #[.val (.int p0), .val (.int p1), .val (.int p2), .val (.int p3), .val (.int (1 : Int32)), .val (.int c0), .val (.int c1), .val (.int c2), .val (.ref s), .val (.ref e), .val (.ref q)] [.int (15 : Int32), .ref q] := H125.bipush at_184
    obtain ⟨_, hx0, _, ⟨rfl, rfl, ex0⟩, Kx0, H127⟩ := H126.callV (argsL := [.int (15 : Int32)]) (rest := []) (Wr := 0) (a := q) (ct_scha hw x.l x.nar x.kn hnar hi q u 15 _ Sq (by rw [List.length_append, hlp]; simp) f hfr P cz O hcz) sub0 Sq.1 (w202 hw) (w203 hw) (w205 hw) (w205 hw) (w204 hw) (w2 hw) (w206 hw) at_186 pd_scha rfl (hf := by first | decide | (simp [b_at, Bx.R]; done) | (simp [b_at, Bx.R]; omega)) (hl := by first | decide | (simp [b_at, Bx.R]; done) | (simp [b_at, Bx.R]; omega)) (hc := by first | decide | (simp [b_at, Bx.R]; done) | (simp [b_at, Bx.R]; omega)) (hs := by first | decide | (simp [b_at, Bx.R]; done) | (simp [b_at, Bx.R]; omega))
    rw [ex0] at H127
    have H127 : Hr x b_at Z EL1 11 2903 hi [] 189 #[.val (.int p0), .val (.int p1), .val (.int p2), .val (.int p3), .val (.int (1 : Int32)), .val (.int c0), .val (.int c1), .val (.int c2), .val (.ref s), .val (.ref e), .val (.ref q)] [.int (u8 ((tPre ++ ([c0].map b8)).getD 15 0))] := H127
    have H128 : Hr x b_at Z EL1 11 2903 hi [] 191 #[.val (.int p0), .val (.int p1), .val (.int p2), .val (.int p3), .val (.int (1 : Int32)), .val (.int c0), .val (.int c1), .val (.int c2), .val (.ref s), .val (.ref e), .val (.ref q)] [.int c0, .int (u8 ((tPre ++ ([c0].map b8)).getD 15 0))] := H127.iload at_189
    have H129 : Hr x b_at Z EL1 11 2903 hi [] 196 #[.val (.int p0), .val (.int p1), .val (.int p2), .val (.int p3), .val (.int (1 : Int32)), .val (.int c0), .val (.int c1), .val (.int c2), .val (.ref s), .val (.ref e), .val (.ref q)] [] := H128.icmpT at_191 (XT.ii_eq_t (u8_b8 r0))
    have H130 : Hr x b_at Z EL1 11 2903 hi [] 198 #[.val (.int p0), .val (.int p1), .val (.int p2), .val (.int p3), .val (.int (1 : Int32)), .val (.int c0), .val (.int c1), .val (.int c2), .val (.ref s), .val (.ref e), .val (.ref q)] [.int (1 : Int32)] := H129.iload at_196
    have H131 : Hr x b_at Z EL1 11 2903 hi [] 199 #[.val (.int p0), .val (.int p1), .val (.int p2), .val (.int p3), .val (.int (1 : Int32)), .val (.int c0), .val (.int c1), .val (.int c2), .val (.ref s), .val (.ref e), .val (.ref q)] [.int (2 : Int32), .int (1 : Int32)] := H130.iconst at_198
    have H132 : Hr x b_at Z EL1 11 2903 hi [] 216 #[.val (.int p0), .val (.int p1), .val (.int p2), .val (.int p3), .val (.int (1 : Int32)), .val (.int c0), .val (.int c1), .val (.int c2), .val (.ref s), .val (.ref e), .val (.ref q)] [] := H131.icmpT at_199 (XT.ii_lt_t (by decide))
    have H133 : Hr x b_at Z EL1 11 2903 hi [] 218 #[.val (.int p0), .val (.int p1), .val (.int p2), .val (.int p3), .val (.int (1 : Int32)), .val (.int c0), .val (.int c1), .val (.int c2), .val (.ref s), .val (.ref e), .val (.ref q)] [.int (1 : Int32)] := H132.iload at_216
    have H134 : Hr x b_at Z EL1 11 2903 hi [] 219 #[.val (.int p0), .val (.int p1), .val (.int p2), .val (.int p3), .val (.int (1 : Int32)), .val (.int c0), .val (.int c1), .val (.int c2), .val (.ref s), .val (.ref e), .val (.ref q)] [.int (3 : Int32), .int (1 : Int32)] := H133.iconst at_218
    have H135 : Hr x b_at Z EL1 11 2903 hi [] 236 #[.val (.int p0), .val (.int p1), .val (.int p2), .val (.int p3), .val (.int (1 : Int32)), .val (.int c0), .val (.int c1), .val (.int c2), .val (.ref s), .val (.ref e), .val (.ref q)] [] := H134.icmpT at_219 (XT.ii_lt_t (by decide))
    have H136 : Hr x b_at Z EL1 11 2903 hi [] 237 #[.val (.int p0), .val (.int p1), .val (.int p2), .val (.int p3), .val (.int (1 : Int32)), .val (.int c0), .val (.int c1), .val (.int c2), .val (.ref s), .val (.ref e), .val (.ref q)] [.int (1 : Int32)] := H135.iconst at_236
    exact H136.finZ at_237 (t := .boolean) (by first | rfl | decide) ⟨rfl, rfl⟩ sub0
  · have z136 := hk
    have H137 : Hr x b_at Z EL1 0 0 h0 [] 1 #[.val (.int p0), .val (.int p1), .val (.int p2), .val (.int p3), .unset, .unset, .unset, .unset, .unset, .unset, .unset] [.int p0] := H0.iloadN at_0
    have H138 : Hr x b_at Z EL1 0 0 h0 [] 2 #[.val (.int p0), .val (.int p1), .val (.int p2), .val (.int p3), .unset, .unset, .unset, .unset, .unset, .unset, .unset] [.int (3 : Int32), .int p0] := H137.iconst at_1
    have H139 : Hr x b_at Z EL1 0 0 h0 [] 3 #[.val (.int p0), .val (.int p1), .val (.int p2), .val (.int p3), .unset, .unset, .unset, .unset, .unset, .unset, .unset] [.int (2 : Int32)] := H138.iand at_2 (hv := hk)
    have H140 : Hr x b_at Z EL1 0 0 h0 [] 5 #[.val (.int p0), .val (.int p1), .val (.int p2), .val (.int p3), .val (.int (2 : Int32)), .unset, .unset, .unset, .unset, .unset, .unset] [] := H139.istore at_3
    have H141 : Hr x b_at Z EL1 0 0 h0 [] 6 #[.val (.int p0), .val (.int p1), .val (.int p2), .val (.int p3), .val (.int (2 : Int32)), .unset, .unset, .unset, .unset, .unset, .unset] [.int p1] := H140.iloadN at_5
    have H142 : Hr x b_at Z EL1 0 0 h0 [] 9 #[.val (.int p0), .val (.int p1), .val (.int p2), .val (.int p3), .val (.int (2 : Int32)), .unset, .unset, .unset, .unset, .unset, .unset] [.int (255 : Int32), .int p1] := H141.sipush at_6
    have H143 : Hr x b_at Z EL1 0 0 h0 [] 10 #[.val (.int p0), .val (.int p1), .val (.int p2), .val (.int p3), .val (.int (2 : Int32)), .unset, .unset, .unset, .unset, .unset, .unset] [.int (p1 &&& (255 : Int32))] := H142.iand at_9
    have H144 : Hr x b_at Z EL1 0 0 h0 [] 11 #[.val (.int p0), .val (.int p1), .val (.int p2), .val (.int p3), .val (.int (2 : Int32)), .unset, .unset, .unset, .unset, .unset, .unset] [.int c0] := H143.i2c at_10 (hv := hc0.symm)
    have H145 : Hr x b_at Z EL1 0 0 h0 [] 13 #[.val (.int p0), .val (.int p1), .val (.int p2), .val (.int p3), .val (.int (2 : Int32)), .val (.int c0), .unset, .unset, .unset, .unset, .unset] [] := H144.istore at_11
    have H146 : Hr x b_at Z EL1 0 0 h0 [] 14 #[.val (.int p0), .val (.int p1), .val (.int p2), .val (.int p3), .val (.int (2 : Int32)), .val (.int c0), .unset, .unset, .unset, .unset, .unset] [.int p2] := H145.iloadN at_13
    have H147 : Hr x b_at Z EL1 0 0 h0 [] 17 #[.val (.int p0), .val (.int p1), .val (.int p2), .val (.int p3), .val (.int (2 : Int32)), .val (.int c0), .unset, .unset, .unset, .unset, .unset] [.int (255 : Int32), .int p2] := H146.sipush at_14
    have H148 : Hr x b_at Z EL1 0 0 h0 [] 18 #[.val (.int p0), .val (.int p1), .val (.int p2), .val (.int p3), .val (.int (2 : Int32)), .val (.int c0), .unset, .unset, .unset, .unset, .unset] [.int (p2 &&& (255 : Int32))] := H147.iand at_17
    have H149 : Hr x b_at Z EL1 0 0 h0 [] 19 #[.val (.int p0), .val (.int p1), .val (.int p2), .val (.int p3), .val (.int (2 : Int32)), .val (.int c0), .unset, .unset, .unset, .unset, .unset] [.int c1] := H148.i2c at_18 (hv := hc1.symm)
    have H150 : Hr x b_at Z EL1 0 0 h0 [] 21 #[.val (.int p0), .val (.int p1), .val (.int p2), .val (.int p3), .val (.int (2 : Int32)), .val (.int c0), .val (.int c1), .unset, .unset, .unset, .unset] [] := H149.istore at_19
    have H151 : Hr x b_at Z EL1 0 0 h0 [] 22 #[.val (.int p0), .val (.int p1), .val (.int p2), .val (.int p3), .val (.int (2 : Int32)), .val (.int c0), .val (.int c1), .unset, .unset, .unset, .unset] [.int p3] := H150.iloadN at_21
    have H152 : Hr x b_at Z EL1 0 0 h0 [] 25 #[.val (.int p0), .val (.int p1), .val (.int p2), .val (.int p3), .val (.int (2 : Int32)), .val (.int c0), .val (.int c1), .unset, .unset, .unset, .unset] [.int (255 : Int32), .int p3] := H151.sipush at_22
    have H153 : Hr x b_at Z EL1 0 0 h0 [] 26 #[.val (.int p0), .val (.int p1), .val (.int p2), .val (.int p3), .val (.int (2 : Int32)), .val (.int c0), .val (.int c1), .unset, .unset, .unset, .unset] [.int (p3 &&& (255 : Int32))] := H152.iand at_25
    have H154 : Hr x b_at Z EL1 0 0 h0 [] 27 #[.val (.int p0), .val (.int p1), .val (.int p2), .val (.int p3), .val (.int (2 : Int32)), .val (.int c0), .val (.int c1), .unset, .unset, .unset, .unset] [.int c2] := H153.i2c at_26 (hv := hc2.symm)
    have H155 : Hr x b_at Z EL1 0 0 h0 [] 29 #[.val (.int p0), .val (.int p1), .val (.int p2), .val (.int p3), .val (.int (2 : Int32)), .val (.int c0), .val (.int c1), .val (.int c2), .unset, .unset, .unset] [] := H154.istore at_27
    have H156 : Hr x b_at Z EL1 0 0 h0 [] 31 #[.val (.int p0), .val (.int p1), .val (.int p2), .val (.int p3), .val (.int (2 : Int32)), .val (.int c0), .val (.int c1), .val (.int c2), .unset, .unset, .unset] [.int (2 : Int32)] := H155.iload at_29
    have H157 : Hr x b_at Z EL1 0 0 h0 [] 49 #[.val (.int p0), .val (.int p1), .val (.int p2), .val (.int p3), .val (.int (2 : Int32)), .val (.int c0), .val (.int c1), .val (.int c2), .unset, .unset, .unset] [] := H156.ifT at_31 (XT.i0_ne_t (by decide))
    have H158 : Hr x b_at Z EL1 0 0 h0 [] 51 #[.val (.int p0), .val (.int p1), .val (.int p2), .val (.int p3), .val (.int (2 : Int32)), .val (.int c0), .val (.int c1), .val (.int c2), .unset, .unset, .unset] [.int (2 : Int32)] := H157.iload at_49
    have H159 : Hr x b_at Z EL1 0 0 h0 [] 52 #[.val (.int p0), .val (.int p1), .val (.int p2), .val (.int p3), .val (.int (2 : Int32)), .val (.int c0), .val (.int c1), .val (.int c2), .unset, .unset, .unset] [.int (1 : Int32), .int (2 : Int32)] := H158.iconst at_51
    have H160 : Hr x b_at Z EL1 0 0 h0 [] 65 #[.val (.int p0), .val (.int p1), .val (.int p2), .val (.int p3), .val (.int (2 : Int32)), .val (.int c0), .val (.int c1), .val (.int c2), .unset, .unset, .unset] [] := H159.icmpT at_52 (XT.ii_ne_t (by decide))
    have H161 : Hr x b_at Z EL1 0 0 h0 [] 67 #[.val (.int p0), .val (.int p1), .val (.int p2), .val (.int p3), .val (.int (2 : Int32)), .val (.int c0), .val (.int c1), .val (.int c2), .unset, .unset, .unset] [.int (2 : Int32)] := H160.iload at_65
    have H162 : Hr x b_at Z EL1 0 0 h0 [] 68 #[.val (.int p0), .val (.int p1), .val (.int p2), .val (.int p3), .val (.int (2 : Int32)), .val (.int c0), .val (.int c1), .val (.int c2), .unset, .unset, .unset] [.int (2 : Int32), .int (2 : Int32)] := H161.iconst at_67
    have H163 : Hr x b_at Z EL1 0 0 h0 [] 71 #[.val (.int p0), .val (.int p1), .val (.int p2), .val (.int p3), .val (.int (2 : Int32)), .val (.int c0), .val (.int c1), .val (.int c2), .unset, .unset, .unset] [] := H162.icmpF at_68 (XT.ii_ne_f rfl)
    obtain ⟨h1, E1, ⟨X1, D1, U1⟩, H164⟩ := H163.new (w0 hw) (w1 hw) (w2 hw) at_71 (by first | decide | (simp [b_at, Bx.R]; done) | (simp [b_at, Bx.R]; omega)) (by first | decide | (simp [b_at, Bx.R]; done) | (simp [b_at, Bx.R]; omega))
    obtain ⟨s, g_s⟩ : ∃ z, z = h0.size := ⟨_, rfl⟩
    rw [← g_s] at X1 D1 U1 H164
    have H164 : Hr x b_at Z EL1 1 4 h1 [s] 74 #[.val (.int p0), .val (.int p1), .val (.int p2), .val (.int p3), .val (.int (2 : Int32)), .val (.int c0), .val (.int c1), .val (.int c2), .unset, .unset, .unset] [.ref s] := H164
    have H165 : Hr x b_at Z EL1 1 4 h1 [s] 75 #[.val (.int p0), .val (.int p1), .val (.int p2), .val (.int p3), .val (.int (2 : Int32)), .val (.int c0), .val (.int c1), .val (.int c2), .unset, .unset, .unset] [.ref s, .ref s] := H164.dup at_74
    have H166 : Hr x b_at Z EL1 1 4 h1 [s] 76 #[.val (.int p0), .val (.int p1), .val (.int p2), .val (.int p3), .val (.int (2 : Int32)), .val (.int c0), .val (.int c1), .val (.int c2), .unset, .unset, .unset] [.int (2 : Int32), .ref s, .ref s] := H165.iconst at_75
    have Fcs : Fld Z h1 s "java/lang/String" "coder" "B" (.int 0) := D1 (Or.inr (w17 hw)) (ty := .byte) (by decide)
    have Fvs : Fld Z h1 s "java/lang/String" "value" "[B" .null := D1 (Or.inr (w16 hw)) (ty := .array .byte) (by decide)
    obtain ⟨hnv, Env, Fv, H167⟩ := H166.newarray (aty := .char) (cap := 2) (w3 hw) at_76 (by decide) (by decide) (by decide) (by first | decide | (simp [b_at, Bx.R]; done) | (simp [b_at, Bx.R]; omega)) (by first | decide | (simp [b_at, Bx.R]; done) | (simp [b_at, Bx.R]; omega))
    obtain ⟨av, g_av⟩ : ∃ z, z = h1.size := ⟨_, rfl⟩
    rw [← g_av] at Fv H167
    have Fv : Ar Z hnv av .char (List.replicate 2 (.int 0)) := Fv
    have H167 : Hr x b_at Z EL1 2 6 hnv [av, s] 78 #[.val (.int p0), .val (.int p1), .val (.int p2), .val (.int p3), .val (.int (2 : Int32)), .val (.int c0), .val (.int c1), .val (.int c2), .unset, .unset, .unset] [.ref av, .ref s, .ref s] := H167
    have H168 : Hr x b_at Z EL1 2 6 hnv [av, s] 79 #[.val (.int p0), .val (.int p1), .val (.int p2), .val (.int p3), .val (.int (2 : Int32)), .val (.int c0), .val (.int c1), .val (.int c2), .unset, .unset, .unset] [.ref av, .ref av, .ref s, .ref s] := H167.dup at_78
    have H169 : Hr x b_at Z EL1 2 6 hnv [av, s] 80 #[.val (.int p0), .val (.int p1), .val (.int p2), .val (.int p3), .val (.int (2 : Int32)), .val (.int c0), .val (.int c1), .val (.int c2), .unset, .unset, .unset] [.int (0 : Int32), .ref av, .ref av, .ref s, .ref s] := H168.iconst at_79
    have H170 : Hr x b_at Z EL1 2 6 hnv [av, s] 82 #[.val (.int p0), .val (.int p1), .val (.int p2), .val (.int p3), .val (.int (2 : Int32)), .val (.int c0), .val (.int c1), .val (.int c2), .unset, .unset, .unset] [.int c0, .int (0 : Int32), .ref av, .ref av, .ref s, .ref s] := H169.iload at_80
    obtain ⟨hsv0, Wsv0, H171⟩ := H170.castore (by simp) Fv at_82 (i := 0) rfl (by simp) (hw := (nar_c r0.1 r0.2))
    have H171 : Hr x b_at Z EL1 2 6 hsv0 [av, s] 83 #[.val (.int p0), .val (.int p1), .val (.int p2), .val (.int p3), .val (.int (2 : Int32)), .val (.int c0), .val (.int c1), .val (.int c2), .unset, .unset, .unset] [.ref av, .ref s, .ref s] := H171
    have Fv : Ar Z hsv0 av .char [.int c0, .int 0] := Fv.set Wsv0
    have H172 : Hr x b_at Z EL1 2 6 hsv0 [av, s] 84 #[.val (.int p0), .val (.int p1), .val (.int p2), .val (.int p3), .val (.int (2 : Int32)), .val (.int c0), .val (.int c1), .val (.int c2), .unset, .unset, .unset] [.ref av, .ref av, .ref s, .ref s] := H171.dup at_83
    have H173 : Hr x b_at Z EL1 2 6 hsv0 [av, s] 85 #[.val (.int p0), .val (.int p1), .val (.int p2), .val (.int p3), .val (.int (2 : Int32)), .val (.int c0), .val (.int c1), .val (.int c2), .unset, .unset, .unset] [.int (1 : Int32), .ref av, .ref av, .ref s, .ref s] := H172.iconst at_84
    have H174 : Hr x b_at Z EL1 2 6 hsv0 [av, s] 87 #[.val (.int p0), .val (.int p1), .val (.int p2), .val (.int p3), .val (.int (2 : Int32)), .val (.int c0), .val (.int c1), .val (.int c2), .unset, .unset, .unset] [.int c1, .int (1 : Int32), .ref av, .ref av, .ref s, .ref s] := H173.iload at_85
    obtain ⟨hsv1, Wsv1, H175⟩ := H174.castore (by simp) Fv at_87 (i := 1) rfl (by simp) (hw := (nar_c r1.1 r1.2))
    have H175 : Hr x b_at Z EL1 2 6 hsv1 [av, s] 88 #[.val (.int p0), .val (.int p1), .val (.int p2), .val (.int p3), .val (.int (2 : Int32)), .val (.int c0), .val (.int c1), .val (.int c2), .unset, .unset, .unset] [.ref av, .ref s, .ref s] := H175
    have Fv : Ar Z hsv1 av .char [.int c0, .int c1] := Fv.set Wsv1
    have hsv : s ≠ av := neN (by have := exa_lt X1; omega)
    obtain ⟨_, h3, _, ⟨rfl, rfl, t, S0⟩, K3, H176⟩ := H175.callI (argsL := [.ref av]) (rest := [.ref s]) (Wr := 1) (a := s) (ct_sini1 hw x.l x.nar x.kn hnar hsv1 s av [c0, c1] (((X1.ext Env).wr Wsv0).wr Wsv1) (((Fcs.ext Env).other Wsv0 (Or.inl hsv)).other Wsv1 (Or.inl hsv)) (((Fvs.ext Env).other Wsv0 (Or.inl hsv)).other Wsv1 (Or.inl hsv)) Fv (by simp) (hcsC r0 (hcsC r1 hcs0)) cz O hcz) (sub1 (by simp)) (w4 hw) (w5 hw) (w2 hw) (w6 hw) at_88 pd_sini1 rfl (hf := by first | decide | (simp [b_at, Bx.R]; done) | (simp [b_at, Bx.R]; omega)) (hl := by first | decide | (simp [b_at, Bx.R]; done) | (simp [b_at, Bx.R]; omega)) (hc := by first | decide | (simp [b_at, Bx.R]; done) | (simp [b_at, Bx.R]; omega)) (hs := by first | decide | (simp [b_at, Bx.R]; done) | (simp [b_at, Bx.R]; omega))
    have H176 : Hr x b_at Z EL1 6 16 h3 [av, s] 91 #[.val (.int p0), .val (.int p1), .val (.int p2), .val (.int p3), .val (.int (2 : Int32)), .val (.int c0), .val (.int c1), .val (.int c2), .unset, .unset, .unset] [.ref s] := H176
    have H177 : Hr x b_at Z EL1 6 16 h3 [av, s] 93 #[.val (.int p0), .val (.int p1), .val (.int p2), .val (.int p3), .val (.int (2 : Int32)), .val (.int c0), .val (.int c1), .val (.int c2), .val (.ref s), .unset, .unset] [] := H176.astore at_91
    have H178 : Hr x b_at Z EL1 6 16 h3 [av, s] 123 #[.val (.int p0), .val (.int p1), .val (.int p2), .val (.int p3), .val (.int (2 : Int32)), .val (.int c0), .val (.int c1), .val (.int c2), .val (.ref s), .unset, .unset] [] := H177.goto at_93
    have H179 : Hr x b_at Z EL1 6 16 h3 [av, s] 125 #[.val (.int p0), .val (.int p1), .val (.int p2), .val (.int p3), .val (.int (2 : Int32)), .val (.int c0), .val (.int c1), .val (.int c2), .val (.ref s), .unset, .unset] [.ref s] := H178.aload at_123
    obtain ⟨_, hi, _, ⟨e, q, u, rfl, rfl, Xe, Me, Sq⟩, Ki, H180⟩ := H179.callS (argsL := [.ref s]) (rest := []) (Wr := 0) (ct_invh hw x.l x.nar x.kn hnar h3 (hkn.trans hkn0) (by rw [hl]; exact hlt) s t ([c0, c1].map b8) S0 (BL.b8 _) (by simp) us ul rs rl S1 S2 cz O hcz) sub0 (w22 hw) (w23 hw) (w24 hw) (w25 hw) at_125 pd_invh rfl (hf := by first | decide | (simp [b_at, Bx.R]; done) | (simp [b_at, Bx.R]; omega)) (hl := by first | decide | (simp [b_at, Bx.R]; done) | (simp [b_at, Bx.R]; omega)) (hc := by first | decide | (simp [b_at, Bx.R]; done) | (simp [b_at, Bx.R]; omega)) (hs := by first | decide | (simp [b_at, Bx.R]; done) | (simp [b_at, Bx.R]; omega))
    have H180 : Hr x b_at Z EL1 15 2914 hi [av, s] 128 #[.val (.int p0), .val (.int p1), .val (.int p2), .val (.int p3), .val (.int (2 : Int32)), .val (.int c0), .val (.int c1), .val (.int c2), .val (.ref s), .unset, .unset] [.ref e] := H180
    have H181 : Hr x b_at Z EL1 15 2914 hi [av, s] 130 #[.val (.int p0), .val (.int p1), .val (.int p2), .val (.int p3), .val (.int (2 : Int32)), .val (.int c0), .val (.int c1), .val (.int c2), .val (.ref s), .val (.ref e), .unset] [] := H180.astore at_128
    have H182 : Hr x b_at Z EL1 15 2914 hi [av, s] 132 #[.val (.int p0), .val (.int p1), .val (.int p2), .val (.int p3), .val (.int (2 : Int32)), .val (.int c0), .val (.int c1), .val (.int c2), .val (.ref s), .val (.ref e), .unset] [.ref e] := H181.aload at_130
    have H183 : Hr x b_at Z EL1 15 2914 hi [av, s] 137 #[.val (.int p0), .val (.int p1), .val (.int p2), .val (.int p3), .val (.int (2 : Int32)), .val (.int c0), .val (.int c1), .val (.int c2), .val (.ref s), .val (.ref e), .unset] [] := H182.ifnonnullT at_132
    have H184 : Hr x b_at Z EL1 15 2914 hi [av, s] 139 #[.val (.int p0), .val (.int p1), .val (.int p2), .val (.int p3), .val (.int (2 : Int32)), .val (.int c0), .val (.int c1), .val (.int c2), .val (.ref s), .val (.ref e), .unset] [.ref e] := H183.aload at_137
    obtain ⟨_, hj, _, ⟨rfl, rfl, ej⟩, Kj, H185⟩ := H184.callUp (argsL := []) (rest := []) (Wr := 0) (a := e) (ct_gmsg hw x.l x.nar x.kn hnar hi e q Me) sub0 Xe (w191 hw) (w192 hw) (w193 hw) (w195 hw) (w194 hw) (w152 hw) (w196 hw) at_139 pd_gmsg rfl
    rw [ej] at H185
    have H185 : Hr x b_at Z EL1 15 2914 hi [av, s] 142 #[.val (.int p0), .val (.int p1), .val (.int p2), .val (.int p3), .val (.int (2 : Int32)), .val (.int c0), .val (.int c1), .val (.int c2), .val (.ref s), .val (.ref e), .unset] [.ref q] := H185
    have H186 : Hr x b_at Z EL1 15 2914 hi [av, s] 144 #[.val (.int p0), .val (.int p1), .val (.int p2), .val (.int p3), .val (.int (2 : Int32)), .val (.int c0), .val (.int c1), .val (.int c2), .val (.ref s), .val (.ref e), .val (.ref q)] [] := H185.astore at_142
    have H187 : Hr x b_at Z EL1 15 2914 hi [av, s] 146 #[.val (.int p0), .val (.int p1), .val (.int p2), .val (.int p3), .val (.int (2 : Int32)), .val (.int c0), .val (.int c1), .val (.int c2), .val (.ref s), .val (.ref e), .val (.ref q)] [.ref q] := H186.aload at_144
    have H188 : Hr x b_at Z EL1 15 2914 hi [av, s] 151 #[.val (.int p0), .val (.int p1), .val (.int p2), .val (.int p3), .val (.int (2 : Int32)), .val (.int c0), .val (.int c1), .val (.int c2), .val (.ref s), .val (.ref e), .val (.ref q)] [] := H187.ifnonnullT at_146
    have H189 : Hr x b_at Z EL1 15 2914 hi [av, s] 153 #[.val (.int p0), .val (.int p1), .val (.int p2), .val (.int p3), .val (.int (2 : Int32)), .val (.int c0), .val (.int c1), .val (.int c2), .val (.ref s), .val (.ref e), .val (.ref q)] [.ref q] := H188.aload at_151
    obtain ⟨_, hm, _, ⟨rfl, rfl, em⟩, Km, H190⟩ := H189.callV (argsL := []) (rest := []) (Wr := 0) (a := q) (ct_slen hw x.l x.nar x.kn hnar hi q u _ Sq cz O hcz) sub0 Sq.1 (w197 hw) (w58 hw) (w60 hw) (w60 hw) (w59 hw) (w2 hw) (w61 hw) at_153 pd_slen rfl (hf := by first | decide | (simp [b_at, Bx.R]; done) | (simp [b_at, Bx.R]; omega)) (hl := by first | decide | (simp [b_at, Bx.R]; done) | (simp [b_at, Bx.R]; omega)) (hc := by first | decide | (simp [b_at, Bx.R]; done) | (simp [b_at, Bx.R]; omega)) (hs := by first | decide | (simp [b_at, Bx.R]; done) | (simp [b_at, Bx.R]; omega))
    rw [em] at H190
    have H190 : Hr x b_at Z EL1 15 2914 hi [av, s] 156 #[.val (.int p0), .val (.int p1), .val (.int p2), .val (.int p3), .val (.int (2 : Int32)), .val (.int c0), .val (.int c1), .val (.int c2), .val (.ref s), .val (.ref e), .val (.ref q)] [.int (Int32.ofNat (tPre ++ ([c0, c1].map b8)).length)] := H190
    have H191 : Hr x b_at Z EL1 15 2914 hi [av, s] 158 #[.val (.int p0), .val (.int p1), .val (.int p2), .val (.int p3), .val (.int (2 : Int32)), .val (.int c0), .val (.int c1), .val (.int c2), .val (.ref s), .val (.ref e), .val (.ref q)] [.int (15 : Int32), .int (Int32.ofNat (tPre ++ ([c0, c1].map b8)).length)] := H190.bipush at_156
    have H192 : Hr x b_at Z EL1 15 2914 hi [av, s] 160 #[.val (.int p0), .val (.int p1), .val (.int p2), .val (.int p3), .val (.int (2 : Int32)), .val (.int c0), .val (.int c1), .val (.int c2), .val (.ref s), .val (.ref e), .val (.ref q)] [.int (2 : Int32), .int (15 : Int32), .int (Int32.ofNat (tPre ++ ([c0, c1].map b8)).length)] := H191.iload at_158
    have H193 : Hr x b_at Z EL1 15 2914 hi [av, s] 161 #[.val (.int p0), .val (.int p1), .val (.int p2), .val (.int p3), .val (.int (2 : Int32)), .val (.int c0), .val (.int c1), .val (.int c2), .val (.ref s), .val (.ref e), .val (.ref q)] [.int ((15 : Int32) + (2 : Int32)), .int (Int32.ofNat (tPre ++ ([c0, c1].map b8)).length)] := H192.iadd at_160
    have H194 : Hr x b_at Z EL1 15 2914 hi [av, s] 166 #[.val (.int p0), .val (.int p1), .val (.int p2), .val (.int p3), .val (.int (2 : Int32)), .val (.int c0), .val (.int c1), .val (.int c2), .val (.ref s), .val (.ref e), .val (.ref q)] [] := H193.icmpT at_161 (XT.ii_eq_t (by first | rfl | decide))
    have H195 : Hr x b_at Z EL1 15 2914 hi [av, s] 168 #[.val (.int p0), .val (.int p1), .val (.int p2), .val (.int p3), .val (.int (2 : Int32)), .val (.int c0), .val (.int c1), .val (.int c2), .val (.ref s), .val (.ref e), .val (.ref q)] [.ref q] := H194.aload at_166
    obtain ⟨_, ho, _, ⟨rfl, rfl, eo⟩, Ko, H196⟩ := H195.callS (argsL := [.ref q]) (rest := []) (Wr := 0) (ct_pfok hw x.l x.nar x.kn hnar hi q u _ Sq f hfr P cz O hcz) sub0 (w198 hw) (w199 hw) (w200 hw) (w201 hw) at_168 pd_pfok rfl (hf := by first | decide | (simp [b_at, Bx.R]; done) | (simp [b_at, Bx.R]; omega)) (hl := by first | decide | (simp [b_at, Bx.R]; done) | (simp [b_at, Bx.R]; omega)) (hc := by first | decide | (simp [b_at, Bx.R]; done) | (simp [b_at, Bx.R]; omega)) (hs := by first | decide | (simp [b_at, Bx.R]; done) | (simp [b_at, Bx.R]; omega))
    rw [eo] at H196
    have H196 : Hr x b_at Z EL1 15 2914 hi [av, s] 171 #[.val (.int p0), .val (.int p1), .val (.int p2), .val (.int p3), .val (.int (2 : Int32)), .val (.int c0), .val (.int c1), .val (.int c2), .val (.ref s), .val (.ref e), .val (.ref q)] [.int (1 : Int32)] := H196
    have H197 : Hr x b_at Z EL1 15 2914 hi [av, s] 176 #[.val (.int p0), .val (.int p1), .val (.int p2), .val (.int p3), .val (.int (2 : Int32)), .val (.int c0), .val (.int c1), .val (.int c2), .val (.ref s), .val (.ref e), .val (.ref q)] [] := H196.ifT at_171 (XT.i0_ne_t (by decide))
    have H198 : Hr x b_at Z EL1 15 2914 hi [av, s] 178 #[.val (.int p0), .val (.int p1), .val (.int p2), .val (.int p3), .val (.int (2 : Int32)), .val (.int c0), .val (.int c1), .val (.int c2), .val (.ref s), .val (.ref e), .val (.ref q)] [.int (2 : Int32)] := H197.iload at_176
    have H199 : Hr x b_at Z EL1 15 2914 hi [av, s] 179 #[.val (.int p0), .val (.int p1), .val (.int p2), .val (.int p3), .val (.int (2 : Int32)), .val (.int c0), .val (.int c1), .val (.int c2), .val (.ref s), .val (.ref e), .val (.ref q)] [.int (1 : Int32), .int (2 : Int32)] := H198.iconst at_178
    have H200 : Hr x b_at Z EL1 15 2914 hi [av, s] 182 #[.val (.int p0), .val (.int p1), .val (.int p2), .val (.int p3), .val (.int (2 : Int32)), .val (.int c0), .val (.int c1), .val (.int c2), .val (.ref s), .val (.ref e), .val (.ref q)] [] := H199.icmpF at_179 (XT.ii_lt_f fun z => absurd z (by decide))
    have H201 : Hr x b_at Z EL1 15 2914 hi [av, s] 184 #[.val (.int p0), .val (.int p1), .val (.int p2), .val (.int p3), .val (.int (2 : Int32)), .val (.int c0), .val (.int c1), .val (.int c2), .val (.ref s), .val (.ref e), .val (.ref q)] [.ref q] := H200.aload at_182
    have H202 : Hr x b_at Z EL1 15 2914 hi [av, s] 186 #[.val (.int p0), .val (.int p1), .val (.int p2), .val (.int p3), .val (.int (2 : Int32)), .val (.int c0), .val (.int c1), .val (.int c2), .val (.ref s), .val (.ref e), .val (.ref q)] [.int (15 : Int32), .ref q] := H201.bipush at_184
    obtain ⟨_, hx0, _, ⟨rfl, rfl, ex0⟩, Kx0, H203⟩ := H202.callV (argsL := [.int (15 : Int32)]) (rest := []) (Wr := 0) (a := q) (ct_scha hw x.l x.nar x.kn hnar hi q u 15 _ Sq (by rw [List.length_append, hlp]; simp) f hfr P cz O hcz) sub0 Sq.1 (w202 hw) (w203 hw) (w205 hw) (w205 hw) (w204 hw) (w2 hw) (w206 hw) at_186 pd_scha rfl (hf := by first | decide | (simp [b_at, Bx.R]; done) | (simp [b_at, Bx.R]; omega)) (hl := by first | decide | (simp [b_at, Bx.R]; done) | (simp [b_at, Bx.R]; omega)) (hc := by first | decide | (simp [b_at, Bx.R]; done) | (simp [b_at, Bx.R]; omega)) (hs := by first | decide | (simp [b_at, Bx.R]; done) | (simp [b_at, Bx.R]; omega))
    rw [ex0] at H203
    have H203 : Hr x b_at Z EL1 15 2914 hi [av, s] 189 #[.val (.int p0), .val (.int p1), .val (.int p2), .val (.int p3), .val (.int (2 : Int32)), .val (.int c0), .val (.int c1), .val (.int c2), .val (.ref s), .val (.ref e), .val (.ref q)] [.int (u8 ((tPre ++ ([c0, c1].map b8)).getD 15 0))] := H203
    have H204 : Hr x b_at Z EL1 15 2914 hi [av, s] 191 #[.val (.int p0), .val (.int p1), .val (.int p2), .val (.int p3), .val (.int (2 : Int32)), .val (.int c0), .val (.int c1), .val (.int c2), .val (.ref s), .val (.ref e), .val (.ref q)] [.int c0, .int (u8 ((tPre ++ ([c0, c1].map b8)).getD 15 0))] := H203.iload at_189
    have H205 : Hr x b_at Z EL1 15 2914 hi [av, s] 196 #[.val (.int p0), .val (.int p1), .val (.int p2), .val (.int p3), .val (.int (2 : Int32)), .val (.int c0), .val (.int c1), .val (.int c2), .val (.ref s), .val (.ref e), .val (.ref q)] [] := H204.icmpT at_191 (XT.ii_eq_t (u8_b8 r0))
    have H206 : Hr x b_at Z EL1 15 2914 hi [av, s] 198 #[.val (.int p0), .val (.int p1), .val (.int p2), .val (.int p3), .val (.int (2 : Int32)), .val (.int c0), .val (.int c1), .val (.int c2), .val (.ref s), .val (.ref e), .val (.ref q)] [.int (2 : Int32)] := H205.iload at_196
    have H207 : Hr x b_at Z EL1 15 2914 hi [av, s] 199 #[.val (.int p0), .val (.int p1), .val (.int p2), .val (.int p3), .val (.int (2 : Int32)), .val (.int c0), .val (.int c1), .val (.int c2), .val (.ref s), .val (.ref e), .val (.ref q)] [.int (2 : Int32), .int (2 : Int32)] := H206.iconst at_198
    have H208 : Hr x b_at Z EL1 15 2914 hi [av, s] 202 #[.val (.int p0), .val (.int p1), .val (.int p2), .val (.int p3), .val (.int (2 : Int32)), .val (.int c0), .val (.int c1), .val (.int c2), .val (.ref s), .val (.ref e), .val (.ref q)] [] := H207.icmpF at_199 (XT.ii_lt_f fun z => absurd z (by decide))
    have H209 : Hr x b_at Z EL1 15 2914 hi [av, s] 204 #[.val (.int p0), .val (.int p1), .val (.int p2), .val (.int p3), .val (.int (2 : Int32)), .val (.int c0), .val (.int c1), .val (.int c2), .val (.ref s), .val (.ref e), .val (.ref q)] [.ref q] := H208.aload at_202
    have H210 : Hr x b_at Z EL1 15 2914 hi [av, s] 206 #[.val (.int p0), .val (.int p1), .val (.int p2), .val (.int p3), .val (.int (2 : Int32)), .val (.int c0), .val (.int c1), .val (.int c2), .val (.ref s), .val (.ref e), .val (.ref q)] [.int (16 : Int32), .ref q] := H209.bipush at_204
    obtain ⟨_, hx1, _, ⟨rfl, rfl, ex1⟩, Kx1, H211⟩ := H210.callV (argsL := [.int (16 : Int32)]) (rest := []) (Wr := 0) (a := q) (ct_scha hw x.l x.nar x.kn hnar hi q u 16 _ Sq (by rw [List.length_append, hlp]; simp) f hfr P cz O hcz) sub0 Sq.1 (w202 hw) (w203 hw) (w205 hw) (w205 hw) (w204 hw) (w2 hw) (w206 hw) at_206 pd_scha rfl (hf := by first | decide | (simp [b_at, Bx.R]; done) | (simp [b_at, Bx.R]; omega)) (hl := by first | decide | (simp [b_at, Bx.R]; done) | (simp [b_at, Bx.R]; omega)) (hc := by first | decide | (simp [b_at, Bx.R]; done) | (simp [b_at, Bx.R]; omega)) (hs := by first | decide | (simp [b_at, Bx.R]; done) | (simp [b_at, Bx.R]; omega))
    rw [ex1] at H211
    have H211 : Hr x b_at Z EL1 15 2914 hi [av, s] 209 #[.val (.int p0), .val (.int p1), .val (.int p2), .val (.int p3), .val (.int (2 : Int32)), .val (.int c0), .val (.int c1), .val (.int c2), .val (.ref s), .val (.ref e), .val (.ref q)] [.int (u8 ((tPre ++ ([c0, c1].map b8)).getD 16 0))] := H211
    have H212 : Hr x b_at Z EL1 15 2914 hi [av, s] 211 #[.val (.int p0), .val (.int p1), .val (.int p2), .val (.int p3), .val (.int (2 : Int32)), .val (.int c0), .val (.int c1), .val (.int c2), .val (.ref s), .val (.ref e), .val (.ref q)] [.int c1, .int (u8 ((tPre ++ ([c0, c1].map b8)).getD 16 0))] := H211.iload at_209
    have H213 : Hr x b_at Z EL1 15 2914 hi [av, s] 216 #[.val (.int p0), .val (.int p1), .val (.int p2), .val (.int p3), .val (.int (2 : Int32)), .val (.int c0), .val (.int c1), .val (.int c2), .val (.ref s), .val (.ref e), .val (.ref q)] [] := H212.icmpT at_211 (XT.ii_eq_t (u8_b8 r1))
    have H214 : Hr x b_at Z EL1 15 2914 hi [av, s] 218 #[.val (.int p0), .val (.int p1), .val (.int p2), .val (.int p3), .val (.int (2 : Int32)), .val (.int c0), .val (.int c1), .val (.int c2), .val (.ref s), .val (.ref e), .val (.ref q)] [.int (2 : Int32)] := H213.iload at_216
    have H215 : Hr x b_at Z EL1 15 2914 hi [av, s] 219 #[.val (.int p0), .val (.int p1), .val (.int p2), .val (.int p3), .val (.int (2 : Int32)), .val (.int c0), .val (.int c1), .val (.int c2), .val (.ref s), .val (.ref e), .val (.ref q)] [.int (3 : Int32), .int (2 : Int32)] := H214.iconst at_218
    have H216 : Hr x b_at Z EL1 15 2914 hi [av, s] 236 #[.val (.int p0), .val (.int p1), .val (.int p2), .val (.int p3), .val (.int (2 : Int32)), .val (.int c0), .val (.int c1), .val (.int c2), .val (.ref s), .val (.ref e), .val (.ref q)] [] := H215.icmpT at_219 (XT.ii_lt_t (by decide))
    have H217 : Hr x b_at Z EL1 15 2914 hi [av, s] 237 #[.val (.int p0), .val (.int p1), .val (.int p2), .val (.int p3), .val (.int (2 : Int32)), .val (.int c0), .val (.int c1), .val (.int c2), .val (.ref s), .val (.ref e), .val (.ref q)] [.int (1 : Int32)] := H216.iconst at_236
    exact H217.finZ at_237 (t := .boolean) (by first | rfl | decide) ⟨rfl, rfl⟩ sub0
  · have z217 := hk
    have H218 : Hr x b_at Z EL1 0 0 h0 [] 1 #[.val (.int p0), .val (.int p1), .val (.int p2), .val (.int p3), .unset, .unset, .unset, .unset, .unset, .unset, .unset] [.int p0] := H0.iloadN at_0
    have H219 : Hr x b_at Z EL1 0 0 h0 [] 2 #[.val (.int p0), .val (.int p1), .val (.int p2), .val (.int p3), .unset, .unset, .unset, .unset, .unset, .unset, .unset] [.int (3 : Int32), .int p0] := H218.iconst at_1
    have H220 : Hr x b_at Z EL1 0 0 h0 [] 3 #[.val (.int p0), .val (.int p1), .val (.int p2), .val (.int p3), .unset, .unset, .unset, .unset, .unset, .unset, .unset] [.int (3 : Int32)] := H219.iand at_2 (hv := hk)
    have H221 : Hr x b_at Z EL1 0 0 h0 [] 5 #[.val (.int p0), .val (.int p1), .val (.int p2), .val (.int p3), .val (.int (3 : Int32)), .unset, .unset, .unset, .unset, .unset, .unset] [] := H220.istore at_3
    have H222 : Hr x b_at Z EL1 0 0 h0 [] 6 #[.val (.int p0), .val (.int p1), .val (.int p2), .val (.int p3), .val (.int (3 : Int32)), .unset, .unset, .unset, .unset, .unset, .unset] [.int p1] := H221.iloadN at_5
    have H223 : Hr x b_at Z EL1 0 0 h0 [] 9 #[.val (.int p0), .val (.int p1), .val (.int p2), .val (.int p3), .val (.int (3 : Int32)), .unset, .unset, .unset, .unset, .unset, .unset] [.int (255 : Int32), .int p1] := H222.sipush at_6
    have H224 : Hr x b_at Z EL1 0 0 h0 [] 10 #[.val (.int p0), .val (.int p1), .val (.int p2), .val (.int p3), .val (.int (3 : Int32)), .unset, .unset, .unset, .unset, .unset, .unset] [.int (p1 &&& (255 : Int32))] := H223.iand at_9
    have H225 : Hr x b_at Z EL1 0 0 h0 [] 11 #[.val (.int p0), .val (.int p1), .val (.int p2), .val (.int p3), .val (.int (3 : Int32)), .unset, .unset, .unset, .unset, .unset, .unset] [.int c0] := H224.i2c at_10 (hv := hc0.symm)
    have H226 : Hr x b_at Z EL1 0 0 h0 [] 13 #[.val (.int p0), .val (.int p1), .val (.int p2), .val (.int p3), .val (.int (3 : Int32)), .val (.int c0), .unset, .unset, .unset, .unset, .unset] [] := H225.istore at_11
    have H227 : Hr x b_at Z EL1 0 0 h0 [] 14 #[.val (.int p0), .val (.int p1), .val (.int p2), .val (.int p3), .val (.int (3 : Int32)), .val (.int c0), .unset, .unset, .unset, .unset, .unset] [.int p2] := H226.iloadN at_13
    have H228 : Hr x b_at Z EL1 0 0 h0 [] 17 #[.val (.int p0), .val (.int p1), .val (.int p2), .val (.int p3), .val (.int (3 : Int32)), .val (.int c0), .unset, .unset, .unset, .unset, .unset] [.int (255 : Int32), .int p2] := H227.sipush at_14
    have H229 : Hr x b_at Z EL1 0 0 h0 [] 18 #[.val (.int p0), .val (.int p1), .val (.int p2), .val (.int p3), .val (.int (3 : Int32)), .val (.int c0), .unset, .unset, .unset, .unset, .unset] [.int (p2 &&& (255 : Int32))] := H228.iand at_17
    have H230 : Hr x b_at Z EL1 0 0 h0 [] 19 #[.val (.int p0), .val (.int p1), .val (.int p2), .val (.int p3), .val (.int (3 : Int32)), .val (.int c0), .unset, .unset, .unset, .unset, .unset] [.int c1] := H229.i2c at_18 (hv := hc1.symm)
    have H231 : Hr x b_at Z EL1 0 0 h0 [] 21 #[.val (.int p0), .val (.int p1), .val (.int p2), .val (.int p3), .val (.int (3 : Int32)), .val (.int c0), .val (.int c1), .unset, .unset, .unset, .unset] [] := H230.istore at_19
    have H232 : Hr x b_at Z EL1 0 0 h0 [] 22 #[.val (.int p0), .val (.int p1), .val (.int p2), .val (.int p3), .val (.int (3 : Int32)), .val (.int c0), .val (.int c1), .unset, .unset, .unset, .unset] [.int p3] := H231.iloadN at_21
    have H233 : Hr x b_at Z EL1 0 0 h0 [] 25 #[.val (.int p0), .val (.int p1), .val (.int p2), .val (.int p3), .val (.int (3 : Int32)), .val (.int c0), .val (.int c1), .unset, .unset, .unset, .unset] [.int (255 : Int32), .int p3] := H232.sipush at_22
    have H234 : Hr x b_at Z EL1 0 0 h0 [] 26 #[.val (.int p0), .val (.int p1), .val (.int p2), .val (.int p3), .val (.int (3 : Int32)), .val (.int c0), .val (.int c1), .unset, .unset, .unset, .unset] [.int (p3 &&& (255 : Int32))] := H233.iand at_25
    have H235 : Hr x b_at Z EL1 0 0 h0 [] 27 #[.val (.int p0), .val (.int p1), .val (.int p2), .val (.int p3), .val (.int (3 : Int32)), .val (.int c0), .val (.int c1), .unset, .unset, .unset, .unset] [.int c2] := H234.i2c at_26 (hv := hc2.symm)
    have H236 : Hr x b_at Z EL1 0 0 h0 [] 29 #[.val (.int p0), .val (.int p1), .val (.int p2), .val (.int p3), .val (.int (3 : Int32)), .val (.int c0), .val (.int c1), .val (.int c2), .unset, .unset, .unset] [] := H235.istore at_27
    have H237 : Hr x b_at Z EL1 0 0 h0 [] 31 #[.val (.int p0), .val (.int p1), .val (.int p2), .val (.int p3), .val (.int (3 : Int32)), .val (.int c0), .val (.int c1), .val (.int c2), .unset, .unset, .unset] [.int (3 : Int32)] := H236.iload at_29
    have H238 : Hr x b_at Z EL1 0 0 h0 [] 49 #[.val (.int p0), .val (.int p1), .val (.int p2), .val (.int p3), .val (.int (3 : Int32)), .val (.int c0), .val (.int c1), .val (.int c2), .unset, .unset, .unset] [] := H237.ifT at_31 (XT.i0_ne_t (by decide))
    have H239 : Hr x b_at Z EL1 0 0 h0 [] 51 #[.val (.int p0), .val (.int p1), .val (.int p2), .val (.int p3), .val (.int (3 : Int32)), .val (.int c0), .val (.int c1), .val (.int c2), .unset, .unset, .unset] [.int (3 : Int32)] := H238.iload at_49
    have H240 : Hr x b_at Z EL1 0 0 h0 [] 52 #[.val (.int p0), .val (.int p1), .val (.int p2), .val (.int p3), .val (.int (3 : Int32)), .val (.int c0), .val (.int c1), .val (.int c2), .unset, .unset, .unset] [.int (1 : Int32), .int (3 : Int32)] := H239.iconst at_51
    have H241 : Hr x b_at Z EL1 0 0 h0 [] 65 #[.val (.int p0), .val (.int p1), .val (.int p2), .val (.int p3), .val (.int (3 : Int32)), .val (.int c0), .val (.int c1), .val (.int c2), .unset, .unset, .unset] [] := H240.icmpT at_52 (XT.ii_ne_t (by decide))
    have H242 : Hr x b_at Z EL1 0 0 h0 [] 67 #[.val (.int p0), .val (.int p1), .val (.int p2), .val (.int p3), .val (.int (3 : Int32)), .val (.int c0), .val (.int c1), .val (.int c2), .unset, .unset, .unset] [.int (3 : Int32)] := H241.iload at_65
    have H243 : Hr x b_at Z EL1 0 0 h0 [] 68 #[.val (.int p0), .val (.int p1), .val (.int p2), .val (.int p3), .val (.int (3 : Int32)), .val (.int c0), .val (.int c1), .val (.int c2), .unset, .unset, .unset] [.int (2 : Int32), .int (3 : Int32)] := H242.iconst at_67
    have H244 : Hr x b_at Z EL1 0 0 h0 [] 96 #[.val (.int p0), .val (.int p1), .val (.int p2), .val (.int p3), .val (.int (3 : Int32)), .val (.int c0), .val (.int c1), .val (.int c2), .unset, .unset, .unset] [] := H243.icmpT at_68 (XT.ii_ne_t (by decide))
    obtain ⟨h1, E1, ⟨X1, D1, U1⟩, H245⟩ := H244.new (w0 hw) (w1 hw) (w2 hw) at_96 (by first | decide | (simp [b_at, Bx.R]; done) | (simp [b_at, Bx.R]; omega)) (by first | decide | (simp [b_at, Bx.R]; done) | (simp [b_at, Bx.R]; omega))
    obtain ⟨s, g_s⟩ : ∃ z, z = h0.size := ⟨_, rfl⟩
    rw [← g_s] at X1 D1 U1 H245
    have H245 : Hr x b_at Z EL1 1 4 h1 [s] 99 #[.val (.int p0), .val (.int p1), .val (.int p2), .val (.int p3), .val (.int (3 : Int32)), .val (.int c0), .val (.int c1), .val (.int c2), .unset, .unset, .unset] [.ref s] := H245
    have H246 : Hr x b_at Z EL1 1 4 h1 [s] 100 #[.val (.int p0), .val (.int p1), .val (.int p2), .val (.int p3), .val (.int (3 : Int32)), .val (.int c0), .val (.int c1), .val (.int c2), .unset, .unset, .unset] [.ref s, .ref s] := H245.dup at_99
    have H247 : Hr x b_at Z EL1 1 4 h1 [s] 101 #[.val (.int p0), .val (.int p1), .val (.int p2), .val (.int p3), .val (.int (3 : Int32)), .val (.int c0), .val (.int c1), .val (.int c2), .unset, .unset, .unset] [.int (3 : Int32), .ref s, .ref s] := H246.iconst at_100
    have Fcs : Fld Z h1 s "java/lang/String" "coder" "B" (.int 0) := D1 (Or.inr (w17 hw)) (ty := .byte) (by decide)
    have Fvs : Fld Z h1 s "java/lang/String" "value" "[B" .null := D1 (Or.inr (w16 hw)) (ty := .array .byte) (by decide)
    obtain ⟨hnv, Env, Fv, H248⟩ := H247.newarray (aty := .char) (cap := 3) (w3 hw) at_101 (by decide) (by decide) (by decide) (by first | decide | (simp [b_at, Bx.R]; done) | (simp [b_at, Bx.R]; omega)) (by first | decide | (simp [b_at, Bx.R]; done) | (simp [b_at, Bx.R]; omega))
    obtain ⟨av, g_av⟩ : ∃ z, z = h1.size := ⟨_, rfl⟩
    rw [← g_av] at Fv H248
    have Fv : Ar Z hnv av .char (List.replicate 3 (.int 0)) := Fv
    have H248 : Hr x b_at Z EL1 2 7 hnv [av, s] 103 #[.val (.int p0), .val (.int p1), .val (.int p2), .val (.int p3), .val (.int (3 : Int32)), .val (.int c0), .val (.int c1), .val (.int c2), .unset, .unset, .unset] [.ref av, .ref s, .ref s] := H248
    have H249 : Hr x b_at Z EL1 2 7 hnv [av, s] 104 #[.val (.int p0), .val (.int p1), .val (.int p2), .val (.int p3), .val (.int (3 : Int32)), .val (.int c0), .val (.int c1), .val (.int c2), .unset, .unset, .unset] [.ref av, .ref av, .ref s, .ref s] := H248.dup at_103
    have H250 : Hr x b_at Z EL1 2 7 hnv [av, s] 105 #[.val (.int p0), .val (.int p1), .val (.int p2), .val (.int p3), .val (.int (3 : Int32)), .val (.int c0), .val (.int c1), .val (.int c2), .unset, .unset, .unset] [.int (0 : Int32), .ref av, .ref av, .ref s, .ref s] := H249.iconst at_104
    have H251 : Hr x b_at Z EL1 2 7 hnv [av, s] 107 #[.val (.int p0), .val (.int p1), .val (.int p2), .val (.int p3), .val (.int (3 : Int32)), .val (.int c0), .val (.int c1), .val (.int c2), .unset, .unset, .unset] [.int c0, .int (0 : Int32), .ref av, .ref av, .ref s, .ref s] := H250.iload at_105
    obtain ⟨hsv0, Wsv0, H252⟩ := H251.castore (by simp) Fv at_107 (i := 0) rfl (by simp) (hw := (nar_c r0.1 r0.2))
    have H252 : Hr x b_at Z EL1 2 7 hsv0 [av, s] 108 #[.val (.int p0), .val (.int p1), .val (.int p2), .val (.int p3), .val (.int (3 : Int32)), .val (.int c0), .val (.int c1), .val (.int c2), .unset, .unset, .unset] [.ref av, .ref s, .ref s] := H252
    have Fv : Ar Z hsv0 av .char [.int c0, .int 0, .int 0] := Fv.set Wsv0
    have H253 : Hr x b_at Z EL1 2 7 hsv0 [av, s] 109 #[.val (.int p0), .val (.int p1), .val (.int p2), .val (.int p3), .val (.int (3 : Int32)), .val (.int c0), .val (.int c1), .val (.int c2), .unset, .unset, .unset] [.ref av, .ref av, .ref s, .ref s] := H252.dup at_108
    have H254 : Hr x b_at Z EL1 2 7 hsv0 [av, s] 110 #[.val (.int p0), .val (.int p1), .val (.int p2), .val (.int p3), .val (.int (3 : Int32)), .val (.int c0), .val (.int c1), .val (.int c2), .unset, .unset, .unset] [.int (1 : Int32), .ref av, .ref av, .ref s, .ref s] := H253.iconst at_109
    have H255 : Hr x b_at Z EL1 2 7 hsv0 [av, s] 112 #[.val (.int p0), .val (.int p1), .val (.int p2), .val (.int p3), .val (.int (3 : Int32)), .val (.int c0), .val (.int c1), .val (.int c2), .unset, .unset, .unset] [.int c1, .int (1 : Int32), .ref av, .ref av, .ref s, .ref s] := H254.iload at_110
    obtain ⟨hsv1, Wsv1, H256⟩ := H255.castore (by simp) Fv at_112 (i := 1) rfl (by simp) (hw := (nar_c r1.1 r1.2))
    have H256 : Hr x b_at Z EL1 2 7 hsv1 [av, s] 113 #[.val (.int p0), .val (.int p1), .val (.int p2), .val (.int p3), .val (.int (3 : Int32)), .val (.int c0), .val (.int c1), .val (.int c2), .unset, .unset, .unset] [.ref av, .ref s, .ref s] := H256
    have Fv : Ar Z hsv1 av .char [.int c0, .int c1, .int 0] := Fv.set Wsv1
    have H257 : Hr x b_at Z EL1 2 7 hsv1 [av, s] 114 #[.val (.int p0), .val (.int p1), .val (.int p2), .val (.int p3), .val (.int (3 : Int32)), .val (.int c0), .val (.int c1), .val (.int c2), .unset, .unset, .unset] [.ref av, .ref av, .ref s, .ref s] := H256.dup at_113
    have H258 : Hr x b_at Z EL1 2 7 hsv1 [av, s] 115 #[.val (.int p0), .val (.int p1), .val (.int p2), .val (.int p3), .val (.int (3 : Int32)), .val (.int c0), .val (.int c1), .val (.int c2), .unset, .unset, .unset] [.int (2 : Int32), .ref av, .ref av, .ref s, .ref s] := H257.iconst at_114
    have H259 : Hr x b_at Z EL1 2 7 hsv1 [av, s] 117 #[.val (.int p0), .val (.int p1), .val (.int p2), .val (.int p3), .val (.int (3 : Int32)), .val (.int c0), .val (.int c1), .val (.int c2), .unset, .unset, .unset] [.int c2, .int (2 : Int32), .ref av, .ref av, .ref s, .ref s] := H258.iload at_115
    obtain ⟨hsv2, Wsv2, H260⟩ := H259.castore (by simp) Fv at_117 (i := 2) rfl (by simp) (hw := (nar_c r2.1 r2.2))
    have H260 : Hr x b_at Z EL1 2 7 hsv2 [av, s] 118 #[.val (.int p0), .val (.int p1), .val (.int p2), .val (.int p3), .val (.int (3 : Int32)), .val (.int c0), .val (.int c1), .val (.int c2), .unset, .unset, .unset] [.ref av, .ref s, .ref s] := H260
    have Fv : Ar Z hsv2 av .char [.int c0, .int c1, .int c2] := Fv.set Wsv2
    have hsv : s ≠ av := neN (by have := exa_lt X1; omega)
    obtain ⟨_, h3, _, ⟨rfl, rfl, t, S0⟩, K3, H261⟩ := H260.callI (argsL := [.ref av]) (rest := [.ref s]) (Wr := 1) (a := s) (ct_sini1 hw x.l x.nar x.kn hnar hsv2 s av [c0, c1, c2] ((((X1.ext Env).wr Wsv0).wr Wsv1).wr Wsv2) ((((Fcs.ext Env).other Wsv0 (Or.inl hsv)).other Wsv1 (Or.inl hsv)).other Wsv2 (Or.inl hsv)) ((((Fvs.ext Env).other Wsv0 (Or.inl hsv)).other Wsv1 (Or.inl hsv)).other Wsv2 (Or.inl hsv)) Fv (by simp) (hcsC r0 (hcsC r1 (hcsC r2 hcs0))) cz O hcz) (sub1 (by simp)) (w4 hw) (w5 hw) (w2 hw) (w6 hw) at_118 pd_sini1 rfl (hf := by first | decide | (simp [b_at, Bx.R]; done) | (simp [b_at, Bx.R]; omega)) (hl := by first | decide | (simp [b_at, Bx.R]; done) | (simp [b_at, Bx.R]; omega)) (hc := by first | decide | (simp [b_at, Bx.R]; done) | (simp [b_at, Bx.R]; omega)) (hs := by first | decide | (simp [b_at, Bx.R]; done) | (simp [b_at, Bx.R]; omega))
    have H261 : Hr x b_at Z EL1 6 18 h3 [av, s] 121 #[.val (.int p0), .val (.int p1), .val (.int p2), .val (.int p3), .val (.int (3 : Int32)), .val (.int c0), .val (.int c1), .val (.int c2), .unset, .unset, .unset] [.ref s] := H261
    have H262 : Hr x b_at Z EL1 6 18 h3 [av, s] 123 #[.val (.int p0), .val (.int p1), .val (.int p2), .val (.int p3), .val (.int (3 : Int32)), .val (.int c0), .val (.int c1), .val (.int c2), .val (.ref s), .unset, .unset] [] := H261.astore at_121
    have H263 : Hr x b_at Z EL1 6 18 h3 [av, s] 125 #[.val (.int p0), .val (.int p1), .val (.int p2), .val (.int p3), .val (.int (3 : Int32)), .val (.int c0), .val (.int c1), .val (.int c2), .val (.ref s), .unset, .unset] [.ref s] := H262.aload at_123
    obtain ⟨_, hi, _, ⟨e, q, u, rfl, rfl, Xe, Me, Sq⟩, Ki, H264⟩ := H263.callS (argsL := [.ref s]) (rest := []) (Wr := 0) (ct_invh hw x.l x.nar x.kn hnar h3 (hkn.trans hkn0) (by rw [hl]; exact hlt) s t ([c0, c1, c2].map b8) S0 (BL.b8 _) (by simp) us ul rs rl S1 S2 cz O hcz) sub0 (w22 hw) (w23 hw) (w24 hw) (w25 hw) at_125 pd_invh rfl (hf := by first | decide | (simp [b_at, Bx.R]; done) | (simp [b_at, Bx.R]; omega)) (hl := by first | decide | (simp [b_at, Bx.R]; done) | (simp [b_at, Bx.R]; omega)) (hc := by first | decide | (simp [b_at, Bx.R]; done) | (simp [b_at, Bx.R]; omega)) (hs := by first | decide | (simp [b_at, Bx.R]; done) | (simp [b_at, Bx.R]; omega))
    have H264 : Hr x b_at Z EL1 15 2916 hi [av, s] 128 #[.val (.int p0), .val (.int p1), .val (.int p2), .val (.int p3), .val (.int (3 : Int32)), .val (.int c0), .val (.int c1), .val (.int c2), .val (.ref s), .unset, .unset] [.ref e] := H264
    have H265 : Hr x b_at Z EL1 15 2916 hi [av, s] 130 #[.val (.int p0), .val (.int p1), .val (.int p2), .val (.int p3), .val (.int (3 : Int32)), .val (.int c0), .val (.int c1), .val (.int c2), .val (.ref s), .val (.ref e), .unset] [] := H264.astore at_128
    have H266 : Hr x b_at Z EL1 15 2916 hi [av, s] 132 #[.val (.int p0), .val (.int p1), .val (.int p2), .val (.int p3), .val (.int (3 : Int32)), .val (.int c0), .val (.int c1), .val (.int c2), .val (.ref s), .val (.ref e), .unset] [.ref e] := H265.aload at_130
    have H267 : Hr x b_at Z EL1 15 2916 hi [av, s] 137 #[.val (.int p0), .val (.int p1), .val (.int p2), .val (.int p3), .val (.int (3 : Int32)), .val (.int c0), .val (.int c1), .val (.int c2), .val (.ref s), .val (.ref e), .unset] [] := H266.ifnonnullT at_132
    have H268 : Hr x b_at Z EL1 15 2916 hi [av, s] 139 #[.val (.int p0), .val (.int p1), .val (.int p2), .val (.int p3), .val (.int (3 : Int32)), .val (.int c0), .val (.int c1), .val (.int c2), .val (.ref s), .val (.ref e), .unset] [.ref e] := H267.aload at_137
    obtain ⟨_, hj, _, ⟨rfl, rfl, ej⟩, Kj, H269⟩ := H268.callUp (argsL := []) (rest := []) (Wr := 0) (a := e) (ct_gmsg hw x.l x.nar x.kn hnar hi e q Me) sub0 Xe (w191 hw) (w192 hw) (w193 hw) (w195 hw) (w194 hw) (w152 hw) (w196 hw) at_139 pd_gmsg rfl
    rw [ej] at H269
    have H269 : Hr x b_at Z EL1 15 2916 hi [av, s] 142 #[.val (.int p0), .val (.int p1), .val (.int p2), .val (.int p3), .val (.int (3 : Int32)), .val (.int c0), .val (.int c1), .val (.int c2), .val (.ref s), .val (.ref e), .unset] [.ref q] := H269
    have H270 : Hr x b_at Z EL1 15 2916 hi [av, s] 144 #[.val (.int p0), .val (.int p1), .val (.int p2), .val (.int p3), .val (.int (3 : Int32)), .val (.int c0), .val (.int c1), .val (.int c2), .val (.ref s), .val (.ref e), .val (.ref q)] [] := H269.astore at_142
    have H271 : Hr x b_at Z EL1 15 2916 hi [av, s] 146 #[.val (.int p0), .val (.int p1), .val (.int p2), .val (.int p3), .val (.int (3 : Int32)), .val (.int c0), .val (.int c1), .val (.int c2), .val (.ref s), .val (.ref e), .val (.ref q)] [.ref q] := H270.aload at_144
    have H272 : Hr x b_at Z EL1 15 2916 hi [av, s] 151 #[.val (.int p0), .val (.int p1), .val (.int p2), .val (.int p3), .val (.int (3 : Int32)), .val (.int c0), .val (.int c1), .val (.int c2), .val (.ref s), .val (.ref e), .val (.ref q)] [] := H271.ifnonnullT at_146
    have H273 : Hr x b_at Z EL1 15 2916 hi [av, s] 153 #[.val (.int p0), .val (.int p1), .val (.int p2), .val (.int p3), .val (.int (3 : Int32)), .val (.int c0), .val (.int c1), .val (.int c2), .val (.ref s), .val (.ref e), .val (.ref q)] [.ref q] := H272.aload at_151
    obtain ⟨_, hm, _, ⟨rfl, rfl, em⟩, Km, H274⟩ := H273.callV (argsL := []) (rest := []) (Wr := 0) (a := q) (ct_slen hw x.l x.nar x.kn hnar hi q u _ Sq cz O hcz) sub0 Sq.1 (w197 hw) (w58 hw) (w60 hw) (w60 hw) (w59 hw) (w2 hw) (w61 hw) at_153 pd_slen rfl (hf := by first | decide | (simp [b_at, Bx.R]; done) | (simp [b_at, Bx.R]; omega)) (hl := by first | decide | (simp [b_at, Bx.R]; done) | (simp [b_at, Bx.R]; omega)) (hc := by first | decide | (simp [b_at, Bx.R]; done) | (simp [b_at, Bx.R]; omega)) (hs := by first | decide | (simp [b_at, Bx.R]; done) | (simp [b_at, Bx.R]; omega))
    rw [em] at H274
    have H274 : Hr x b_at Z EL1 15 2916 hi [av, s] 156 #[.val (.int p0), .val (.int p1), .val (.int p2), .val (.int p3), .val (.int (3 : Int32)), .val (.int c0), .val (.int c1), .val (.int c2), .val (.ref s), .val (.ref e), .val (.ref q)] [.int (Int32.ofNat (tPre ++ ([c0, c1, c2].map b8)).length)] := H274
    have H275 : Hr x b_at Z EL1 15 2916 hi [av, s] 158 #[.val (.int p0), .val (.int p1), .val (.int p2), .val (.int p3), .val (.int (3 : Int32)), .val (.int c0), .val (.int c1), .val (.int c2), .val (.ref s), .val (.ref e), .val (.ref q)] [.int (15 : Int32), .int (Int32.ofNat (tPre ++ ([c0, c1, c2].map b8)).length)] := H274.bipush at_156
    have H276 : Hr x b_at Z EL1 15 2916 hi [av, s] 160 #[.val (.int p0), .val (.int p1), .val (.int p2), .val (.int p3), .val (.int (3 : Int32)), .val (.int c0), .val (.int c1), .val (.int c2), .val (.ref s), .val (.ref e), .val (.ref q)] [.int (3 : Int32), .int (15 : Int32), .int (Int32.ofNat (tPre ++ ([c0, c1, c2].map b8)).length)] := H275.iload at_158
    have H277 : Hr x b_at Z EL1 15 2916 hi [av, s] 161 #[.val (.int p0), .val (.int p1), .val (.int p2), .val (.int p3), .val (.int (3 : Int32)), .val (.int c0), .val (.int c1), .val (.int c2), .val (.ref s), .val (.ref e), .val (.ref q)] [.int ((15 : Int32) + (3 : Int32)), .int (Int32.ofNat (tPre ++ ([c0, c1, c2].map b8)).length)] := H276.iadd at_160
    have H278 : Hr x b_at Z EL1 15 2916 hi [av, s] 166 #[.val (.int p0), .val (.int p1), .val (.int p2), .val (.int p3), .val (.int (3 : Int32)), .val (.int c0), .val (.int c1), .val (.int c2), .val (.ref s), .val (.ref e), .val (.ref q)] [] := H277.icmpT at_161 (XT.ii_eq_t (by first | rfl | decide))
    have H279 : Hr x b_at Z EL1 15 2916 hi [av, s] 168 #[.val (.int p0), .val (.int p1), .val (.int p2), .val (.int p3), .val (.int (3 : Int32)), .val (.int c0), .val (.int c1), .val (.int c2), .val (.ref s), .val (.ref e), .val (.ref q)] [.ref q] := H278.aload at_166
    obtain ⟨_, ho, _, ⟨rfl, rfl, eo⟩, Ko, H280⟩ := H279.callS (argsL := [.ref q]) (rest := []) (Wr := 0) (ct_pfok hw x.l x.nar x.kn hnar hi q u _ Sq f hfr P cz O hcz) sub0 (w198 hw) (w199 hw) (w200 hw) (w201 hw) at_168 pd_pfok rfl (hf := by first | decide | (simp [b_at, Bx.R]; done) | (simp [b_at, Bx.R]; omega)) (hl := by first | decide | (simp [b_at, Bx.R]; done) | (simp [b_at, Bx.R]; omega)) (hc := by first | decide | (simp [b_at, Bx.R]; done) | (simp [b_at, Bx.R]; omega)) (hs := by first | decide | (simp [b_at, Bx.R]; done) | (simp [b_at, Bx.R]; omega))
    rw [eo] at H280
    have H280 : Hr x b_at Z EL1 15 2916 hi [av, s] 171 #[.val (.int p0), .val (.int p1), .val (.int p2), .val (.int p3), .val (.int (3 : Int32)), .val (.int c0), .val (.int c1), .val (.int c2), .val (.ref s), .val (.ref e), .val (.ref q)] [.int (1 : Int32)] := H280
    have H281 : Hr x b_at Z EL1 15 2916 hi [av, s] 176 #[.val (.int p0), .val (.int p1), .val (.int p2), .val (.int p3), .val (.int (3 : Int32)), .val (.int c0), .val (.int c1), .val (.int c2), .val (.ref s), .val (.ref e), .val (.ref q)] [] := H280.ifT at_171 (XT.i0_ne_t (by decide))
    have H282 : Hr x b_at Z EL1 15 2916 hi [av, s] 178 #[.val (.int p0), .val (.int p1), .val (.int p2), .val (.int p3), .val (.int (3 : Int32)), .val (.int c0), .val (.int c1), .val (.int c2), .val (.ref s), .val (.ref e), .val (.ref q)] [.int (3 : Int32)] := H281.iload at_176
    have H283 : Hr x b_at Z EL1 15 2916 hi [av, s] 179 #[.val (.int p0), .val (.int p1), .val (.int p2), .val (.int p3), .val (.int (3 : Int32)), .val (.int c0), .val (.int c1), .val (.int c2), .val (.ref s), .val (.ref e), .val (.ref q)] [.int (1 : Int32), .int (3 : Int32)] := H282.iconst at_178
    have H284 : Hr x b_at Z EL1 15 2916 hi [av, s] 182 #[.val (.int p0), .val (.int p1), .val (.int p2), .val (.int p3), .val (.int (3 : Int32)), .val (.int c0), .val (.int c1), .val (.int c2), .val (.ref s), .val (.ref e), .val (.ref q)] [] := H283.icmpF at_179 (XT.ii_lt_f fun z => absurd z (by decide))
    have H285 : Hr x b_at Z EL1 15 2916 hi [av, s] 184 #[.val (.int p0), .val (.int p1), .val (.int p2), .val (.int p3), .val (.int (3 : Int32)), .val (.int c0), .val (.int c1), .val (.int c2), .val (.ref s), .val (.ref e), .val (.ref q)] [.ref q] := H284.aload at_182
    have H286 : Hr x b_at Z EL1 15 2916 hi [av, s] 186 #[.val (.int p0), .val (.int p1), .val (.int p2), .val (.int p3), .val (.int (3 : Int32)), .val (.int c0), .val (.int c1), .val (.int c2), .val (.ref s), .val (.ref e), .val (.ref q)] [.int (15 : Int32), .ref q] := H285.bipush at_184
    obtain ⟨_, hx0, _, ⟨rfl, rfl, ex0⟩, Kx0, H287⟩ := H286.callV (argsL := [.int (15 : Int32)]) (rest := []) (Wr := 0) (a := q) (ct_scha hw x.l x.nar x.kn hnar hi q u 15 _ Sq (by rw [List.length_append, hlp]; simp) f hfr P cz O hcz) sub0 Sq.1 (w202 hw) (w203 hw) (w205 hw) (w205 hw) (w204 hw) (w2 hw) (w206 hw) at_186 pd_scha rfl (hf := by first | decide | (simp [b_at, Bx.R]; done) | (simp [b_at, Bx.R]; omega)) (hl := by first | decide | (simp [b_at, Bx.R]; done) | (simp [b_at, Bx.R]; omega)) (hc := by first | decide | (simp [b_at, Bx.R]; done) | (simp [b_at, Bx.R]; omega)) (hs := by first | decide | (simp [b_at, Bx.R]; done) | (simp [b_at, Bx.R]; omega))
    rw [ex0] at H287
    have H287 : Hr x b_at Z EL1 15 2916 hi [av, s] 189 #[.val (.int p0), .val (.int p1), .val (.int p2), .val (.int p3), .val (.int (3 : Int32)), .val (.int c0), .val (.int c1), .val (.int c2), .val (.ref s), .val (.ref e), .val (.ref q)] [.int (u8 ((tPre ++ ([c0, c1, c2].map b8)).getD 15 0))] := H287
    have H288 : Hr x b_at Z EL1 15 2916 hi [av, s] 191 #[.val (.int p0), .val (.int p1), .val (.int p2), .val (.int p3), .val (.int (3 : Int32)), .val (.int c0), .val (.int c1), .val (.int c2), .val (.ref s), .val (.ref e), .val (.ref q)] [.int c0, .int (u8 ((tPre ++ ([c0, c1, c2].map b8)).getD 15 0))] := H287.iload at_189
    have H289 : Hr x b_at Z EL1 15 2916 hi [av, s] 196 #[.val (.int p0), .val (.int p1), .val (.int p2), .val (.int p3), .val (.int (3 : Int32)), .val (.int c0), .val (.int c1), .val (.int c2), .val (.ref s), .val (.ref e), .val (.ref q)] [] := H288.icmpT at_191 (XT.ii_eq_t (u8_b8 r0))
    have H290 : Hr x b_at Z EL1 15 2916 hi [av, s] 198 #[.val (.int p0), .val (.int p1), .val (.int p2), .val (.int p3), .val (.int (3 : Int32)), .val (.int c0), .val (.int c1), .val (.int c2), .val (.ref s), .val (.ref e), .val (.ref q)] [.int (3 : Int32)] := H289.iload at_196
    have H291 : Hr x b_at Z EL1 15 2916 hi [av, s] 199 #[.val (.int p0), .val (.int p1), .val (.int p2), .val (.int p3), .val (.int (3 : Int32)), .val (.int c0), .val (.int c1), .val (.int c2), .val (.ref s), .val (.ref e), .val (.ref q)] [.int (2 : Int32), .int (3 : Int32)] := H290.iconst at_198
    have H292 : Hr x b_at Z EL1 15 2916 hi [av, s] 202 #[.val (.int p0), .val (.int p1), .val (.int p2), .val (.int p3), .val (.int (3 : Int32)), .val (.int c0), .val (.int c1), .val (.int c2), .val (.ref s), .val (.ref e), .val (.ref q)] [] := H291.icmpF at_199 (XT.ii_lt_f fun z => absurd z (by decide))
    have H293 : Hr x b_at Z EL1 15 2916 hi [av, s] 204 #[.val (.int p0), .val (.int p1), .val (.int p2), .val (.int p3), .val (.int (3 : Int32)), .val (.int c0), .val (.int c1), .val (.int c2), .val (.ref s), .val (.ref e), .val (.ref q)] [.ref q] := H292.aload at_202
    have H294 : Hr x b_at Z EL1 15 2916 hi [av, s] 206 #[.val (.int p0), .val (.int p1), .val (.int p2), .val (.int p3), .val (.int (3 : Int32)), .val (.int c0), .val (.int c1), .val (.int c2), .val (.ref s), .val (.ref e), .val (.ref q)] [.int (16 : Int32), .ref q] := H293.bipush at_204
    obtain ⟨_, hx1, _, ⟨rfl, rfl, ex1⟩, Kx1, H295⟩ := H294.callV (argsL := [.int (16 : Int32)]) (rest := []) (Wr := 0) (a := q) (ct_scha hw x.l x.nar x.kn hnar hi q u 16 _ Sq (by rw [List.length_append, hlp]; simp) f hfr P cz O hcz) sub0 Sq.1 (w202 hw) (w203 hw) (w205 hw) (w205 hw) (w204 hw) (w2 hw) (w206 hw) at_206 pd_scha rfl (hf := by first | decide | (simp [b_at, Bx.R]; done) | (simp [b_at, Bx.R]; omega)) (hl := by first | decide | (simp [b_at, Bx.R]; done) | (simp [b_at, Bx.R]; omega)) (hc := by first | decide | (simp [b_at, Bx.R]; done) | (simp [b_at, Bx.R]; omega)) (hs := by first | decide | (simp [b_at, Bx.R]; done) | (simp [b_at, Bx.R]; omega))
    rw [ex1] at H295
    have H295 : Hr x b_at Z EL1 15 2916 hi [av, s] 209 #[.val (.int p0), .val (.int p1), .val (.int p2), .val (.int p3), .val (.int (3 : Int32)), .val (.int c0), .val (.int c1), .val (.int c2), .val (.ref s), .val (.ref e), .val (.ref q)] [.int (u8 ((tPre ++ ([c0, c1, c2].map b8)).getD 16 0))] := H295
    have H296 : Hr x b_at Z EL1 15 2916 hi [av, s] 211 #[.val (.int p0), .val (.int p1), .val (.int p2), .val (.int p3), .val (.int (3 : Int32)), .val (.int c0), .val (.int c1), .val (.int c2), .val (.ref s), .val (.ref e), .val (.ref q)] [.int c1, .int (u8 ((tPre ++ ([c0, c1, c2].map b8)).getD 16 0))] := H295.iload at_209
    have H297 : Hr x b_at Z EL1 15 2916 hi [av, s] 216 #[.val (.int p0), .val (.int p1), .val (.int p2), .val (.int p3), .val (.int (3 : Int32)), .val (.int c0), .val (.int c1), .val (.int c2), .val (.ref s), .val (.ref e), .val (.ref q)] [] := H296.icmpT at_211 (XT.ii_eq_t (u8_b8 r1))
    have H298 : Hr x b_at Z EL1 15 2916 hi [av, s] 218 #[.val (.int p0), .val (.int p1), .val (.int p2), .val (.int p3), .val (.int (3 : Int32)), .val (.int c0), .val (.int c1), .val (.int c2), .val (.ref s), .val (.ref e), .val (.ref q)] [.int (3 : Int32)] := H297.iload at_216
    have H299 : Hr x b_at Z EL1 15 2916 hi [av, s] 219 #[.val (.int p0), .val (.int p1), .val (.int p2), .val (.int p3), .val (.int (3 : Int32)), .val (.int c0), .val (.int c1), .val (.int c2), .val (.ref s), .val (.ref e), .val (.ref q)] [.int (3 : Int32), .int (3 : Int32)] := H298.iconst at_218
    have H300 : Hr x b_at Z EL1 15 2916 hi [av, s] 222 #[.val (.int p0), .val (.int p1), .val (.int p2), .val (.int p3), .val (.int (3 : Int32)), .val (.int c0), .val (.int c1), .val (.int c2), .val (.ref s), .val (.ref e), .val (.ref q)] [] := H299.icmpF at_219 (XT.ii_lt_f fun z => absurd z (by decide))
    have H301 : Hr x b_at Z EL1 15 2916 hi [av, s] 224 #[.val (.int p0), .val (.int p1), .val (.int p2), .val (.int p3), .val (.int (3 : Int32)), .val (.int c0), .val (.int c1), .val (.int c2), .val (.ref s), .val (.ref e), .val (.ref q)] [.ref q] := H300.aload at_222
    have H302 : Hr x b_at Z EL1 15 2916 hi [av, s] 226 #[.val (.int p0), .val (.int p1), .val (.int p2), .val (.int p3), .val (.int (3 : Int32)), .val (.int c0), .val (.int c1), .val (.int c2), .val (.ref s), .val (.ref e), .val (.ref q)] [.int (17 : Int32), .ref q] := H301.bipush at_224
    obtain ⟨_, hx2, _, ⟨rfl, rfl, ex2⟩, Kx2, H303⟩ := H302.callV (argsL := [.int (17 : Int32)]) (rest := []) (Wr := 0) (a := q) (ct_scha hw x.l x.nar x.kn hnar hi q u 17 _ Sq (by rw [List.length_append, hlp]; simp) f hfr P cz O hcz) sub0 Sq.1 (w202 hw) (w203 hw) (w205 hw) (w205 hw) (w204 hw) (w2 hw) (w206 hw) at_226 pd_scha rfl (hf := by first | decide | (simp [b_at, Bx.R]; done) | (simp [b_at, Bx.R]; omega)) (hl := by first | decide | (simp [b_at, Bx.R]; done) | (simp [b_at, Bx.R]; omega)) (hc := by first | decide | (simp [b_at, Bx.R]; done) | (simp [b_at, Bx.R]; omega)) (hs := by first | decide | (simp [b_at, Bx.R]; done) | (simp [b_at, Bx.R]; omega))
    rw [ex2] at H303
    have H303 : Hr x b_at Z EL1 15 2916 hi [av, s] 229 #[.val (.int p0), .val (.int p1), .val (.int p2), .val (.int p3), .val (.int (3 : Int32)), .val (.int c0), .val (.int c1), .val (.int c2), .val (.ref s), .val (.ref e), .val (.ref q)] [.int (u8 ((tPre ++ ([c0, c1, c2].map b8)).getD 17 0))] := H303
    have H304 : Hr x b_at Z EL1 15 2916 hi [av, s] 231 #[.val (.int p0), .val (.int p1), .val (.int p2), .val (.int p3), .val (.int (3 : Int32)), .val (.int c0), .val (.int c1), .val (.int c2), .val (.ref s), .val (.ref e), .val (.ref q)] [.int c2, .int (u8 ((tPre ++ ([c0, c1, c2].map b8)).getD 17 0))] := H303.iload at_229
    have H305 : Hr x b_at Z EL1 15 2916 hi [av, s] 236 #[.val (.int p0), .val (.int p1), .val (.int p2), .val (.int p3), .val (.int (3 : Int32)), .val (.int c0), .val (.int c1), .val (.int c2), .val (.ref s), .val (.ref e), .val (.ref q)] [] := H304.icmpT at_231 (XT.ii_eq_t (u8_b8 r2))
    have H306 : Hr x b_at Z EL1 15 2916 hi [av, s] 237 #[.val (.int p0), .val (.int p1), .val (.int p2), .val (.int p3), .val (.int (3 : Int32)), .val (.int c0), .val (.int c1), .val (.int c2), .val (.ref s), .val (.ref e), .val (.ref q)] [.int (1 : Int32)] := H305.iconst at_236
    exact H306.finZ at_237 (t := .boolean) (by first | rfl | decide) ⟨rfl, rfl⟩ sub0
set_option maxRecDepth 65536 in
set_option maxHeartbeats 4000000 in
theorem comes_1 {Post : Tables → Env → Array Value → State → Outcome → State → Prop} (hpost : ∀ tb e args s v u, (limb_1_1.after args s (.returned v) u = true ∧ limb_1_2.after args s (.returned v) u = true ∧ True) → FramedW s (.returned v) u (Jvm.fieldLocs frame_1_writes args s ++ Jvm.arrayLocs frame_1_arrays args s ++ Jvm.staticLocs frame_1_statics s) 32 7808 → Post tb e args s (.returned v) u) :
    ArmFor flags0 classFile x code maxLocals ret World_1 tables_1 room_1 Calls_1 rest_1 Pre_1 Post := by
  intro l hfl _ _ p e ha hc hk s m args below hf hA hF happ hP
  obtain ⟨hcalls, hrest, hpre⟩ := hP
  obtain ⟨-, -, -, hnamed, -, -, -, hat⟩ := (Spec.applies_iff hf).mp happ
  obtain ⟨hg, hn⟩ := and_e (Cond.before_iff.mp (show (Jvm.Cond.and given_1 narrow_1).before args s = true from hpre))
  obtain ⟨g0, hg⟩ := and_e hg
  obtain ⟨g1, hg⟩ := and_e hg
  obtain ⟨g2, hg⟩ := and_e hg
  obtain ⟨g3, hg⟩ := and_e hg
  obtain ⟨v0, v1, v2, v3, rfl⟩ : ∃ v0 v1 v2 v3 : Value, args = #[v0, v1, v2, v3] := by
    have hs : args.size = 4 := by simpa [Cond.value, given_1] using g0
    obtain ⟨L⟩ := args
    match L, hs with
    | [v0, v1, v2, v3], _ => exact ⟨v0, v1, v2, v3, rfl⟩
  have hw := fun d (hd : d ∈ tables_1) => atoms_spec (ws := Jvm.Cond.code x code maxLocals ret :: tables_1) hat d (List.mem_cons_of_mem _ hd)
  obtain ⟨hsets, hown0⟩ := atoms_of _ (rest_1_c_eq ▸ (show rest_1_c.before _ s = true from hrest))
  obtain ⟨i0, e0⟩ := is_v g1
  obtain rfl : v0 = (.int i0) := Option.some.inj e0
  obtain ⟨i1, e1⟩ := is_v g2
  obtain rfl : v1 = (.int i1) := Option.some.inj e1
  obtain ⟨i2, e2⟩ := is_v g3
  obtain rfl : v2 = (.int i2) := Option.some.inj e2
  obtain ⟨i3, e3⟩ := is_v hg
  obtain rfl : v3 = (.int i3) := Option.some.inj e3
  have n5 := not_v (Cond.before_iff.mp (hsets _ (List.mem_of_getElem? (i := 2) rfl)))
  obtain ⟨cz, ecz⟩ := is_v (Cond.before_iff.mp (hsets _ (List.mem_of_getElem? (i := 1) rfl)))
  have O : Sta s s.heap "java/lang/String" "COMPACT_STRINGS" "Z" (.int cz) := Sta.start ecz (Or.inl (hsets _ (List.mem_of_getElem? (i := 0) rfl)))
  have hcz : ¬ (cz = (0 : Int32)) := gotF (Cond.eq_ints ecz (Term.int_eval (0))) n5
  have hCH : CHv s EL1 s.vm s.heap := CHv.start (ew hw) (fun p hp => hcalls.2.2.1 p hp) (hsets _ (List.mem_of_getElem? (i := 2) rfl)) (w15 hw) (w1 hw)
  obtain ⟨f, ef, rf⟩ := isR_v (Cond.before_iff.mp (hsets _ (List.mem_of_getElem? (i := 8) rfl)))
  have Pf : Sta s s.heap "jdk/internal/util/Preconditions" "SIOOBE_FORMATTER" "Ljava/util/function/BiFunction;" f := Sta.start ef (Or.inl (hsets _ (List.mem_of_getElem? (i := 7) rfl)))
  obtain ⟨us, eus, rs⟩ := isR_v (Cond.before_iff.mp (hsets _ (List.mem_of_getElem? (i := 16) rfl)))
  have S1 : Sta s s.heap "java/lang/Throwable" "UNASSIGNED_STACK" "[Ljava/lang/StackTraceElement;" us := Sta.start eus (Or.inl (hsets _ (List.mem_of_getElem? (i := 15) rfl)))
  obtain ⟨ul, eul, rl⟩ := isR_v (Cond.before_iff.mp (hsets _ (List.mem_of_getElem? (i := 21) rfl)))
  have S2 : Sta s s.heap "java/lang/Throwable" "SUPPRESSED_SENTINEL" "Ljava/util/List;" ul := Sta.start eul (Or.inl (hsets _ (List.mem_of_getElem? (i := 20) rfl)))
  have hlt : l.stackTraces = true := by unfold Launch.stackTraces; rw [hfl]; decide
  obtain ⟨n, o, h1, h2, h3, _, L, sn, rfl, ⟨rfl, -⟩, -, -, N, -, hnw, hq⟩ := ct_law hw l false true rfl s.heap i0 i1 i2 i3 f rf Pf rfl hlt us ul rs rl S1 S2 cz O hcz tables_1 p e ha hc hk s m _ below hf ((Spec.applies_iff_loose hf).mp happ).1 ⟨rfl, State.Warmed39.refl s, rfl, hCH, Ext.rfl' _, fun _ q => nomatch q⟩ (fun _ => ⟨methods_known hcalls.2.1, frames_known hcalls.1 hf⟩)
  refine ⟨n, _, h1, h2, h3, hpost _ _ _ _ _ _ ⟨Cond.after_iff.mpr rfl, Cond.after_iff.mpr (eq_i res_at (Term.int_eval (1)) rfl), trivial⟩ ⟨hq.1, hq.2.1, hq.2.2.1, (hq.2.2.2.sift fun y hy => Or.inr (N y hy)).mono (by decide) (by decide)⟩⟩
theorem main_1_1 : Claimed_1_1 := comes_1 fun _ _ _ _ _ _ h hF => ⟨h.1, hF⟩
theorem main_1_2 : Claimed_1_2 := comes_1 fun _ _ _ _ _ _ h hF => ⟨h.2.1, hF⟩
end Jvm.Pilot.@@N@@
namespace Jvm.Pilot.@@N@@
open Jvm Jvm.ClassFile Sem Op Lib Jvm.Free Jvm.Stand Jvm.Pilot.@@N@@.Jvm.D
/-! MADE BY PROGRAM (witnessworld.py) out of the Statement's table words and the real class files: 41 classes; the members and pool entries that the words name. The judged class is class 1, her method 1. -/
namespace start1
open Jvm.ClassFile
def u (s : String) : CpInfo := .utf8 (stringToUtf16 s)
/-- a pool by its gaps: so many unusable entries, then the entry; so many at the end -/
def gap : Nat → List CpInfo → List CpInfo
  | 0, r => r
  | n + 1, r => .unusable :: gap n r
def poolList (es : List (Nat × CpInfo)) (last : Nat) : List CpInfo := es.foldr (fun e r => gap e.1 (e.2 :: r)) (gap last [])
def pool (es : List (Nat × CpInfo)) (last : Nat) : Array CpInfo := ⟨poolList es last⟩
def fileOf (pool : Array CpInfo) (this : Nat) (attrs : Array Attribute := #[]) (ms : Array MethodInfo := #[]) (fl : Nat := 33) (sup : Nat := 0) (ifs : Array Nat := #[]) (fds : Array FieldInfo := #[]) : ClassFile where
  minorVersion := 0
  majorVersion := 65
  constantPool := pool
  accessFlags := fl
  thisClass := this
  superClass := sup
  interfaces := ifs
  fields := fds
  methods := ms
  attributes := attrs
def plain (name : String) (sup : Option ClassId) : Class where
  name := name
  kind := .ordinary
  loader := none
  accessFlags := 33
  super := sup
  interfaces := #[]
  cf := none
  fields := #[]
  methods := #[]
  instanceTypes := #[]
  staticTypes := #[]
  resolved := #[]
  callSites := []
  init := .initialized
  statics := none
  mirror := none

def pool0 : Array CpInfo := pool [(5, u "<init>"), (0, u "()V"), (1, .class_ 10), (1, u "java/lang/Object"), (85, u "clone"), (0, u "()Ljava/lang/Object;")] 26

def k0c0 : Code := { maxStack := 0, maxLocals := 1, code := object_method_1_code, exceptionTable := #[], attributes := #[] }
def k0m0 : Method := { name := "<init>", desc := "()V", sig := { parameters := [], returnType := none }, accessFlags := 1, code := some k0c0 }
def k0m1 : Method := { name := "clone", desc := "()Ljava/lang/Object;", sig := { parameters := [], returnType := some (.object "java/lang/Object") }, accessFlags := 260, code := none }
/-- java/lang/Object -/
def k0 : Class := { plain "java/lang/Object" none with
  accessFlags := 33
  interfaces := #[]
  cf := some (fileOf pool0 8 #[] #[{ accessFlags := 1, nameIndex := 5, descriptorIndex := 6, attributes := #[] }, { accessFlags := 260, nameIndex := 96, descriptorIndex := 97, attributes := #[] }] 33 0 #[] #[])
  fields := #[]
  methods := #[k0m0, k0m1]
  instanceTypes := #[]
  staticTypes := #[]
  resolved := Array.replicate 124 none
  statics := none }

def pool1 : Array CpInfo := pool [(2, .class_ 4), (1, u "java/lang/Object"), (0, u "<init>"), (0, u "()V"), (0, .class_ 8), (0, u "java/lang/String"), (0, .methodref 7 10), (0, .nameAndType 5 11), (0, u "([C)V"), (0, .methodref 7 13), (0, .nameAndType 14 15), (0, u "valueOf"), (0, u "(C)Ljava/lang/String;"), (0, .methodref 17 18), (0, .class_ 19), (0, .nameAndType 20 21), (0, u "com/example/rungway/rungway/framework/InstallException"), (0, u "invalidHeader"), (0, u "(Ljava/lang/String;)Lcom/example/rungway/rungway/framework/InstallException;"), (0, .methodref 17 23), (0, .nameAndType 24 25), (0, u "getMessage"), (0, u "()Ljava/lang/String;"), (0, .methodref 7 27), (0, .nameAndType 28 29), (0, u "length"), (0, u "()I"), (0, .methodref 31 32), (0, .class_ 33), (0, .nameAndType 34 35), (0, u "com/example/rungway/rungway/framework/InstallExceptionInvalidHeaderPinLaw"), (0, u "prefixOk"), (0, u "(Ljava/lang/String;)Z"), (0, .methodref 7 37), (0, .nameAndType 38 39), (0, u "charAt"), (0, u "(I)C"), (2, u "law"), (0, u "(IIII)Z")] 3

def k1m0 : Method := { name := "<init>", desc := "()V", sig := { parameters := [], returnType := none }, accessFlags := 1, code := none }
def k1c1 : Code := { maxStack := 6, maxLocals := 11, code := code, exceptionTable := #[], attributes := #[] }
def k1m1 : Method := { name := "law", desc := "(IIII)Z", sig := { parameters := [.int, .int, .int, .int], returnType := some .boolean }, accessFlags := 9, code := some k1c1 }
def k1c2 : Code := { maxStack := 2, maxLocals := 1, code := method_3_code, exceptionTable := #[], attributes := #[] }
def k1m2 : Method := { name := "prefixOk", desc := "(Ljava/lang/String;)Z", sig := { parameters := [(.object "java/lang/String")], returnType := some .boolean }, accessFlags := 10, code := some k1c2 }
/-- com/example/rungway/rungway/framework/InstallExceptionInvalidHeaderPinLaw -/
def k1 : Class := { plain "com/example/rungway/rungway/framework/InstallExceptionInvalidHeaderPinLaw" (some 0) with
  accessFlags := 49
  interfaces := #[]
  cf := some (fileOf pool1 31 #[] #[{ accessFlags := 1, nameIndex := 5, descriptorIndex := 6, attributes := #[] }, { accessFlags := 9, nameIndex := 42, descriptorIndex := 43, attributes := #[] }, { accessFlags := 10, nameIndex := 34, descriptorIndex := 35, attributes := #[] }] 49 2 #[] #[])
  fields := #[]
  methods := #[k1m0, k1m1, k1m2]
  instanceTypes := #[]
  staticTypes := #[]
  resolved := Array.replicate 47 none
  statics := none }

def pool2 : Array CpInfo := pool [(1, .class_ 2), (0, u "java/io/Serializable"), (0, .class_ 4), (0, u "java/lang/Object")] 2

/-- java/io/Serializable -/
def k2 : Class := { plain "java/io/Serializable" (some 0) with
  accessFlags := 1537
  interfaces := #[]
  cf := some (fileOf pool2 1 #[] #[] 1537 3 #[] #[])
  fields := #[]
  methods := #[]
  instanceTypes := #[]
  staticTypes := #[]
  resolved := Array.replicate 7 none
  statics := none }

def pool3 : Array CpInfo := pool [(1, .class_ 2), (0, u "java/lang/Comparable"), (0, .class_ 4), (0, u "java/lang/Object")] 7

/-- java/lang/Comparable -/
def k3 : Class := { plain "java/lang/Comparable" (some 0) with
  accessFlags := 1537
  interfaces := #[]
  cf := some (fileOf pool3 1 #[] #[] 1537 3 #[] #[])
  fields := #[]
  methods := #[]
  instanceTypes := #[]
  staticTypes := #[]
  resolved := Array.replicate 12 none
  statics := none }

def pool4 : Array CpInfo := pool [(2, .class_ 4), (1, u "java/lang/CharSequence"), (42, .class_ 48), (0, u "java/lang/CharSequence$1CodePointIterator"), (10, .class_ 60), (0, u "java/lang/CharSequence$1CharIterator"), (5, .class_ 67), (0, u "java/lang/Object")] 63

/-- java/lang/CharSequence -/
def k4 : Class := { plain "java/lang/CharSequence" (some 0) with
  accessFlags := 1537
  interfaces := #[]
  cf := some (fileOf pool4 2 #[.nestMembers #[47, 59]] #[] 1537 66 #[] #[])
  fields := #[]
  methods := #[]
  instanceTypes := #[]
  staticTypes := #[]
  resolved := Array.replicate 131 none
  statics := none }

def pool5 : Array CpInfo := pool [(1, .class_ 2), (0, u "java/lang/constant/Constable"), (0, .class_ 4), (0, u "java/lang/Object")] 6

/-- java/lang/constant/Constable -/
def k5 : Class := { plain "java/lang/constant/Constable" (some 0) with
  accessFlags := 1537
  interfaces := #[]
  cf := some (fileOf pool5 1 #[] #[] 1537 3 #[] #[])
  fields := #[]
  methods := #[]
  instanceTypes := #[]
  staticTypes := #[]
  resolved := Array.replicate 11 none
  statics := none }

def pool6 : Array CpInfo := pool [(1, .class_ 2), (0, u "java/lang/constant/ConstantDesc"), (0, .class_ 4), (0, u "java/lang/Object")] 32

/-- java/lang/constant/ConstantDesc -/
def k6 : Class := { plain "java/lang/constant/ConstantDesc" (some 0) with
  accessFlags := 1537
  interfaces := #[]
  cf := some (fileOf pool6 1 #[] #[] 1537 3 #[] #[])
  fields := #[]
  methods := #[]
  instanceTypes := #[]
  staticTypes := #[]
  resolved := Array.replicate 37 none
  statics := none }

def pool7 : Array CpInfo := pool [(1, .methodref 2 3), (0, .class_ 4), (0, .nameAndType 5 6), (0, u "java/lang/Object"), (0, u "<init>"), (0, u "()V"), (0, .string 8), (0, u ""), (0, .fieldref 10 11), (0, .class_ 12), (0, .nameAndType 13 14), (0, u "java/lang/String"), (0, u "value"), (0, u "[B"), (0, .fieldref 10 16), (0, .nameAndType 17 18), (0, u "coder"), (0, u "B"), (2, u "hash"), (0, u "I"), (2, u "hashIsZero"), (0, u "Z"), (0, .methodref 10 28), (0, .nameAndType 5 29), (0, u "([CIILjava/lang/Void;)V"), (8, .fieldref 10 39), (0, .nameAndType 40 26), (0, u "COMPACT_STRINGS"), (1, .class_ 44), (1, u "java/lang/StringUTF16"), (0, u "compress"), (1, .methodref 42 48), (0, .nameAndType 49 50), (0, u "coderFromArrayLen"), (0, u "([BI)B"), (2, u "toBytes"), (0, .methodref 55 56), (0, .class_ 57), (0, .nameAndType 58 59), (0, u "java/util/Arrays"), (0, u "copyOfRange"), (0, u "([BII)[B"), (47, .class_ 109), (1, u "java/lang/StringLatin1"), (32, u "()Z"), (34, .methodref 42 178), (0, .nameAndType 45 179), (0, u "([CII)[B"), (13, .class_ 195), (1, u "java/lang/System"), (13, .methodref 10 210), (0, .nameAndType 5 211), (0, u "([BB)V"), (0, .methodref 193 213), (0, .nameAndType 214 215), (0, u "arraycopy"), (0, u "(Ljava/lang/Object;ILjava/lang/Object;II)V"), (118, u "()I"), (0, .methodref 10 336), (0, .nameAndType 17 337), (0, u "()B"), (2, u "()[B"), (22, u "([BI)C"), (5, u "(C)Z"), (21, u "(II)V"), (35, u "(I)C"), (61, .methodref 10 490), (0, .nameAndType 5 491), (0, u "(Ljava/lang/AbstractStringBuilder;Ljava/lang/Void;)V"), (0, .methodref 10 493), (0, .nameAndType 494 142), (0, u "isLatin1"), (0, .methodref 107 496), (0, .nameAndType 497 363), (0, u "charAt"), (3, u "checkIndex"), (4, .nameAndType 507 334), (0, u "length"), (24, u "getBytes"), (16, .methodref 550 506), (0, .class_ 551), (0, u "java/lang/AbstractStringBuilder"), (0, .methodref 550 553), (0, .nameAndType 554 340), (0, u "getValue"), (20, .class_ 576), (0, u "java/lang/CharSequence"), (22, u "CASE_INSENSITIVE_ORDER"), (0, u "Ljava/util/Comparator;"), (181, u "valueOf"), (0, u "(C)Ljava/lang/String;"), (37, u "([BIB)V"), (188, u "([C)V"), (4, .methodref 107 1016), (0, .nameAndType 1017 369), (0, u "canEncode"), (0, .methodref 107 1019), (0, .nameAndType 53 1020), (0, u "(C)[B"), (26, .methodref 550 493), (5, .fieldref 1054 1055), (0, .class_ 1056), (0, .nameAndType 1057 1058), (0, u "jdk/internal/util/Preconditions"), (0, u "SIOOBE_FORMATTER"), (0, u "Ljava/util/function/BiFunction;"), (0, .methodref 1054 1060), (0, .nameAndType 501 1061), (0, u "(IILjava/util/function/BiFunction;)I"), (39, u "serialPersistentFields"), (0, u "[Ljava/io/ObjectStreamField;"), (0, .class_ 1104), (0, u "java/lang/String$CaseInsensitiveComparator"), (1, .class_ 1107), (0, u "java/io/Serializable"), (0, .class_ 1109), (0, u "java/lang/Comparable"), (0, .class_ 1111), (0, u "java/lang/constant/Constable"), (0, .class_ 1113), (0, u "java/lang/constant/ConstantDesc"), (2, u "serialVersionUID"), (0, u "J"), (3, u "REPL"), (0, u "C"), (2, u "LATIN1"), (1, u "UTF16"), (105, u "(Ljava/lang/StringBuilder;)V")] 217

def k7m0 : Method := { name := "<init>", desc := "()V", sig := { parameters := [], returnType := none }, accessFlags := 1, code := none }
def k7c1 : Code := { maxStack := 5, maxLocals := 2, code := jdk_42_method_3_code, exceptionTable := #[], attributes := #[] }
def k7m1 : Method := { name := "<init>", desc := "([C)V", sig := { parameters := [(.array .char)], returnType := none }, accessFlags := 1, code := some k7c1 }
def k7c2 : Code := { maxStack := 3, maxLocals := 2, code := jdk_42_method_53_code, exceptionTable := #[], attributes := #[] }
def k7m2 : Method := { name := "<init>", desc := "(Ljava/lang/StringBuilder;)V", sig := { parameters := [(.object "java/lang/StringBuilder")], returnType := none }, accessFlags := 1, code := some k7c2 }
def k7c3 : Code := { maxStack := 2, maxLocals := 1, code := jdk_42_method_54_code, exceptionTable := #[], attributes := #[] }
def k7m3 : Method := { name := "length", desc := "()I", sig := { parameters := [], returnType := some .int }, accessFlags := 1, code := some k7c3 }
def k7c4 : Code := { maxStack := 2, maxLocals := 2, code := jdk_42_method_56_code, exceptionTable := #[], attributes := #[] }
def k7m4 : Method := { name := "charAt", desc := "(I)C", sig := { parameters := [.int], returnType := some .char }, accessFlags := 1, code := some k7c4 }
def k7c5 : Code := { maxStack := 4, maxLocals := 1, code := jdk_42_method_139_code, exceptionTable := #[], attributes := #[] }
def k7m5 : Method := { name := "valueOf", desc := "(C)Ljava/lang/String;", sig := { parameters := [.char], returnType := some (.object "java/lang/String") }, accessFlags := 9, code := some k7c5 }
def k7c6 : Code := { maxStack := 5, maxLocals := 4, code := jdk_42_method_147_code, exceptionTable := #[], attributes := #[] }
def k7m6 : Method := { name := "getBytes", desc := "([BIB)V", sig := { parameters := [(.array .byte), .int, .byte], returnType := none }, accessFlags := 0, code := some k7c6 }
def k7c7 : Code := { maxStack := 4, maxLocals := 6, code := jdk_42_method_149_code, exceptionTable := #[], attributes := #[] }
def k7m7 : Method := { name := "<init>", desc := "([CIILjava/lang/Void;)V", sig := { parameters := [(.array .char), .int, .int, (.object "java/lang/Void")], returnType := none }, accessFlags := 2, code := some k7c7 }
def k7c8 : Code := { maxStack := 5, maxLocals := 5, code := jdk_42_method_150_code, exceptionTable := #[], attributes := #[] }
def k7m8 : Method := { name := "<init>", desc := "(Ljava/lang/AbstractStringBuilder;Ljava/lang/Void;)V", sig := { parameters := [(.object "java/lang/AbstractStringBuilder"), (.object "java/lang/Void")], returnType := none }, accessFlags := 0, code := some k7c8 }
def k7c9 : Code := { maxStack := 2, maxLocals := 3, code := jdk_42_method_151_code, exceptionTable := #[], attributes := #[] }
def k7m9 : Method := { name := "<init>", desc := "([BB)V", sig := { parameters := [(.array .byte), .byte], returnType := none }, accessFlags := 0, code := some k7c9 }
def k7c10 : Code := { maxStack := 1, maxLocals := 1, code := jdk_42_method_152_code, exceptionTable := #[], attributes := #[] }
def k7m10 : Method := { name := "coder", desc := "()B", sig := { parameters := [], returnType := some .byte }, accessFlags := 0, code := some k7c10 }
def k7c11 : Code := { maxStack := 1, maxLocals := 1, code := jdk_42_method_154_code, exceptionTable := #[], attributes := #[] }
def k7m11 : Method := { name := "isLatin1", desc := "()Z", sig := { parameters := [], returnType := some .boolean }, accessFlags := 0, code := some k7c11 }
def k7c12 : Code := { maxStack := 3, maxLocals := 2, code := jdk_42_method_155_code, exceptionTable := #[], attributes := #[] }
def k7m12 : Method := { name := "checkIndex", desc := "(II)V", sig := { parameters := [.int, .int], returnType := none }, accessFlags := 8, code := some k7c12 }
/-- java/lang/String -/
def k7 : Class := { plain "java/lang/String" (some 0) with
  accessFlags := 49
  interfaces := #[2, 3, 4, 5, 6]
  cf := some (fileOf pool7 10 #[.nestMembers #[1103]] #[{ accessFlags := 1, nameIndex := 5, descriptorIndex := 6, attributes := #[] }, { accessFlags := 1, nameIndex := 5, descriptorIndex := 1010, attributes := #[] }, { accessFlags := 1, nameIndex := 5, descriptorIndex := 1233, attributes := #[] }, { accessFlags := 1, nameIndex := 507, descriptorIndex := 334, attributes := #[] }, { accessFlags := 1, nameIndex := 497, descriptorIndex := 427, attributes := #[] }, { accessFlags := 9, nameIndex := 782, descriptorIndex := 783, attributes := #[] }, { accessFlags := 0, nameIndex := 532, descriptorIndex := 821, attributes := #[] }, { accessFlags := 2, nameIndex := 5, descriptorIndex := 29, attributes := #[] }, { accessFlags := 0, nameIndex := 5, descriptorIndex := 491, attributes := #[] }, { accessFlags := 0, nameIndex := 5, descriptorIndex := 211, attributes := #[] }, { accessFlags := 0, nameIndex := 17, descriptorIndex := 337, attributes := #[] }, { accessFlags := 0, nameIndex := 494, descriptorIndex := 142, attributes := #[] }, { accessFlags := 8, nameIndex := 501, descriptorIndex := 391, attributes := #[] }] 49 2 #[1106, 1108, 575, 1110, 1112] #[{ accessFlags := 18, nameIndex := 13, descriptorIndex := 14, attributes := #[] }, { accessFlags := 18, nameIndex := 17, descriptorIndex := 18, attributes := #[] }, { accessFlags := 2, nameIndex := 21, descriptorIndex := 22, attributes := #[] }, { accessFlags := 2, nameIndex := 25, descriptorIndex := 26, attributes := #[] }, { accessFlags := 26, nameIndex := 1116, descriptorIndex := 1117, attributes := #[] }, { accessFlags := 24, nameIndex := 40, descriptorIndex := 26, attributes := #[] }, { accessFlags := 26, nameIndex := 1101, descriptorIndex := 1102, attributes := #[] }, { accessFlags := 26, nameIndex := 1121, descriptorIndex := 1122, attributes := #[] }, { accessFlags := 25, nameIndex := 599, descriptorIndex := 600, attributes := #[] }, { accessFlags := 24, nameIndex := 1125, descriptorIndex := 18, attributes := #[] }, { accessFlags := 24, nameIndex := 1127, descriptorIndex := 18, attributes := #[] }])
  fields := #[{ name := "value", type := (.array .byte), accessFlags := 18, slot := 0, constantValue := 0 }, { name := "coder", type := .byte, accessFlags := 18, slot := 1, constantValue := 0 }, { name := "hash", type := .int, accessFlags := 2, slot := 2, constantValue := 0 }, { name := "hashIsZero", type := .boolean, accessFlags := 2, slot := 3, constantValue := 0 }, { name := "serialVersionUID", type := .long, accessFlags := 26, slot := 0, constantValue := 0 }, { name := "COMPACT_STRINGS", type := .boolean, accessFlags := 24, slot := 1, constantValue := 0 }, { name := "serialPersistentFields", type := (.array (.object "java/io/ObjectStreamField")), accessFlags := 26, slot := 2, constantValue := 0 }, { name := "REPL", type := .char, accessFlags := 26, slot := 3, constantValue := 0 }, { name := "CASE_INSENSITIVE_ORDER", type := (.object "java/util/Comparator"), accessFlags := 25, slot := 4, constantValue := 0 }, { name := "LATIN1", type := .byte, accessFlags := 24, slot := 5, constantValue := 0 }, { name := "UTF16", type := .byte, accessFlags := 24, slot := 6, constantValue := 0 }]
  methods := #[k7m0, k7m1, k7m2, k7m3, k7m4, k7m5, k7m6, k7m7, k7m8, k7m9, k7m10, k7m11, k7m12]
  instanceTypes := #[(.array .byte), .byte, .int, .boolean]
  staticTypes := #[.long, .boolean, (.array (.object "java/io/ObjectStreamField")), .char, (.object "java/util/Comparator"), .byte, .byte]
  resolved := Array.replicate 1451 none
  statics := some 0 }

def pool8 : Array CpInfo := pool [(1, .methodref 2 3), (0, .class_ 4), (0, .nameAndType 5 6), (0, u "java/lang/Object"), (0, u "<init>"), (0, u "()V"), (0, .fieldref 8 9), (0, .class_ 10), (0, .nameAndType 11 12), (0, u "java/lang/Throwable"), (0, u "cause"), (0, u "Ljava/lang/Throwable;"), (0, .fieldref 8 14), (0, .nameAndType 15 16), (0, u "UNASSIGNED_STACK"), (0, u "[Ljava/lang/StackTraceElement;"), (0, .fieldref 8 18), (0, .nameAndType 19 16), (0, u "stackTrace"), (0, .fieldref 8 21), (0, .nameAndType 22 23), (0, u "SUPPRESSED_SENTINEL"), (0, u "Ljava/util/List;"), (0, .fieldref 8 25), (0, .nameAndType 26 23), (0, u "suppressedExceptions"), (0, .methodref 8 28), (0, .nameAndType 29 30), (0, u "fillInStackTrace"), (0, u "()Ljava/lang/Throwable;"), (0, .fieldref 8 32), (0, .nameAndType 33 34), (0, u "detailMessage"), (0, u "Ljava/lang/String;"), (3, u "()Ljava/lang/String;"), (2, u "getMessage"), (51, .class_ 94), (0, u "java/lang/Throwable$WrappedPrintStream"), (6, .class_ 103), (1, u "java/lang/Throwable$PrintStreamOrWriter"), (61, u "$assertionsDisabled"), (0, u "Z"), (26, .class_ 194), (0, u "java/lang/Throwable$WrappedPrintWriter"), (3, .fieldref 8 199), (0, .nameAndType 200 201), (0, u "backtrace"), (0, u "Ljava/lang/Object;"), (0, .methodref 8 203), (0, .nameAndType 29 204), (0, u "(I)Ljava/lang/Throwable;"), (6, u "depth"), (0, u "I"), (10, u "(Ljava/lang/String;)V"), (45, .class_ 271), (1, u "java/lang/Throwable$SentinelHolder"), (32, u "EMPTY_THROWABLE_ARRAY"), (0, u "[Ljava/lang/Throwable;"), (12, .class_ 319), (0, u "java/io/Serializable"), (0, u "serialVersionUID"), (0, u "J"), (5, u "NULL_CAUSE_MESSAGE"), (0, u "SELF_SUPPRESSION_MESSAGE"), (0, u "CAUSE_CAPTION"), (0, u "SUPPRESSED_CAPTION")] 73

def k8c0 : Code := { maxStack := 2, maxLocals := 1, code := jdk_78_method_1_code, exceptionTable := #[], attributes := #[] }
def k8m0 : Method := { name := "<init>", desc := "()V", sig := { parameters := [], returnType := none }, accessFlags := 1, code := some k8c0 }
def k8c1 : Code := { maxStack := 2, maxLocals := 2, code := jdk_78_method_2_code, exceptionTable := #[], attributes := #[] }
def k8m1 : Method := { name := "<init>", desc := "(Ljava/lang/String;)V", sig := { parameters := [(.object "java/lang/String")], returnType := none }, accessFlags := 1, code := some k8c1 }
def k8c2 : Code := { maxStack := 1, maxLocals := 1, code := jdk_78_method_6_code, exceptionTable := #[], attributes := #[] }
def k8m2 : Method := { name := "getMessage", desc := "()Ljava/lang/String;", sig := { parameters := [], returnType := some (.object "java/lang/String") }, accessFlags := 1, code := some k8c2 }
def k8c3 : Code := { maxStack := 2, maxLocals := 1, code := ⟨#[0x2a, 0xb4, 0x00, 0x11, 0xc7, 0x00, 0x0a, 0x2a, 0xb4, 0x00, 0xc6, 0xc6, 0x00, 0x10, 0x2a, 0x03, 0xb6, 0x00, 0xca, 0x57, 0x2a, 0xb2, 0x00, 0x0d, 0xb5, 0x00, 0x11, 0x2a, 0xb0]⟩, exceptionTable := #[], attributes := #[] }
def k8m3 : Method := { name := "fillInStackTrace", desc := "()Ljava/lang/Throwable;", sig := { parameters := [], returnType := some (.object "java/lang/Throwable") }, accessFlags := 33, code := some k8c3 }
def k8m4 : Method := { name := "fillInStackTrace", desc := "(I)Ljava/lang/Throwable;", sig := { parameters := [.int], returnType := some (.object "java/lang/Throwable") }, accessFlags := 258, code := none }
/-- java/lang/Throwable -/
def k8 : Class := { plain "java/lang/Throwable" (some 0) with
  accessFlags := 33
  interfaces := #[2]
  cf := some (fileOf pool8 8 #[.nestMembers #[193, 93, 101, 269]] #[{ accessFlags := 1, nameIndex := 5, descriptorIndex := 6, attributes := #[] }, { accessFlags := 1, nameIndex := 5, descriptorIndex := 223, attributes := #[] }, { accessFlags := 1, nameIndex := 41, descriptorIndex := 38, attributes := #[] }, { accessFlags := 33, nameIndex := 29, descriptorIndex := 30, attributes := #[] }, { accessFlags := 258, nameIndex := 29, descriptorIndex := 204, attributes := #[] }] 33 2 #[318] #[{ accessFlags := 26, nameIndex := 320, descriptorIndex := 321, attributes := #[] }, { accessFlags := 130, nameIndex := 200, descriptorIndex := 201, attributes := #[] }, { accessFlags := 2, nameIndex := 33, descriptorIndex := 34, attributes := #[] }, { accessFlags := 26, nameIndex := 15, descriptorIndex := 16, attributes := #[] }, { accessFlags := 2, nameIndex := 11, descriptorIndex := 12, attributes := #[] }, { accessFlags := 2, nameIndex := 19, descriptorIndex := 16, attributes := #[] }, { accessFlags := 130, nameIndex := 211, descriptorIndex := 212, attributes := #[] }, { accessFlags := 26, nameIndex := 22, descriptorIndex := 23, attributes := #[] }, { accessFlags := 2, nameIndex := 26, descriptorIndex := 23, attributes := #[] }, { accessFlags := 26, nameIndex := 327, descriptorIndex := 34, attributes := #[] }, { accessFlags := 26, nameIndex := 328, descriptorIndex := 34, attributes := #[] }, { accessFlags := 26, nameIndex := 329, descriptorIndex := 34, attributes := #[] }, { accessFlags := 26, nameIndex := 330, descriptorIndex := 34, attributes := #[] }, { accessFlags := 26, nameIndex := 304, descriptorIndex := 305, attributes := #[] }, { accessFlags := 4120, nameIndex := 165, descriptorIndex := 166, attributes := #[] }])
  fields := #[{ name := "serialVersionUID", type := .long, accessFlags := 26, slot := 0, constantValue := 0 }, { name := "backtrace", type := (.object "java/lang/Object"), accessFlags := 130, slot := 0, constantValue := 0 }, { name := "detailMessage", type := (.object "java/lang/String"), accessFlags := 2, slot := 1, constantValue := 0 }, { name := "UNASSIGNED_STACK", type := (.array (.object "java/lang/StackTraceElement")), accessFlags := 26, slot := 1, constantValue := 0 }, { name := "cause", type := (.object "java/lang/Throwable"), accessFlags := 2, slot := 2, constantValue := 0 }, { name := "stackTrace", type := (.array (.object "java/lang/StackTraceElement")), accessFlags := 2, slot := 3, constantValue := 0 }, { name := "depth", type := .int, accessFlags := 130, slot := 4, constantValue := 0 }, { name := "SUPPRESSED_SENTINEL", type := (.object "java/util/List"), accessFlags := 26, slot := 2, constantValue := 0 }, { name := "suppressedExceptions", type := (.object "java/util/List"), accessFlags := 2, slot := 5, constantValue := 0 }, { name := "NULL_CAUSE_MESSAGE", type := (.object "java/lang/String"), accessFlags := 26, slot := 3, constantValue := 0 }, { name := "SELF_SUPPRESSION_MESSAGE", type := (.object "java/lang/String"), accessFlags := 26, slot := 4, constantValue := 0 }, { name := "CAUSE_CAPTION", type := (.object "java/lang/String"), accessFlags := 26, slot := 5, constantValue := 0 }, { name := "SUPPRESSED_CAPTION", type := (.object "java/lang/String"), accessFlags := 26, slot := 6, constantValue := 0 }, { name := "EMPTY_THROWABLE_ARRAY", type := (.array (.object "java/lang/Throwable")), accessFlags := 26, slot := 7, constantValue := 0 }, { name := "$assertionsDisabled", type := .boolean, accessFlags := 4120, slot := 8, constantValue := 0 }]
  methods := #[k8m0, k8m1, k8m2, k8m3, k8m4]
  instanceTypes := #[(.object "java/lang/Object"), (.object "java/lang/String"), (.object "java/lang/Throwable"), (.array (.object "java/lang/StackTraceElement")), .int, (.object "java/util/List")]
  staticTypes := #[.long, (.array (.object "java/lang/StackTraceElement")), (.object "java/util/List"), (.object "java/lang/String"), (.object "java/lang/String"), (.object "java/lang/String"), (.object "java/lang/String"), (.array (.object "java/lang/Throwable")), .boolean]
  resolved := Array.replicate 404 none
  statics := some 1 }

def pool9 : Array CpInfo := pool [(2, .class_ 4), (1, u "java/lang/Throwable"), (0, u "<init>"), (0, u "()V"), (0, .methodref 2 8), (0, .nameAndType 5 9), (0, u "(Ljava/lang/String;)V"), (9, .class_ 20), (0, u "java/lang/Exception"), (0, u "serialVersionUID"), (0, u "J")] 17

def k9m0 : Method := { name := "<init>", desc := "()V", sig := { parameters := [], returnType := none }, accessFlags := 1, code := none }
def k9c1 : Code := { maxStack := 2, maxLocals := 2, code := jdk_59_method_2_code, exceptionTable := #[], attributes := #[] }
def k9m1 : Method := { name := "<init>", desc := "(Ljava/lang/String;)V", sig := { parameters := [(.object "java/lang/String")], returnType := none }, accessFlags := 1, code := some k9c1 }
/-- java/lang/Exception -/
def k9 : Class := { plain "java/lang/Exception" (some 8) with
  accessFlags := 33
  interfaces := #[]
  cf := some (fileOf pool9 19 #[] #[{ accessFlags := 1, nameIndex := 5, descriptorIndex := 6, attributes := #[] }, { accessFlags := 1, nameIndex := 5, descriptorIndex := 9, attributes := #[] }] 33 2 #[] #[{ accessFlags := 24, nameIndex := 21, descriptorIndex := 22, attributes := #[] }])
  fields := #[{ name := "serialVersionUID", type := .long, accessFlags := 24, slot := 0, constantValue := 0 }]
  methods := #[k9m0, k9m1]
  instanceTypes := #[(.object "java/lang/Object"), (.object "java/lang/String"), (.object "java/lang/Throwable"), (.array (.object "java/lang/StackTraceElement")), .int, (.object "java/util/List")]
  staticTypes := #[.long]
  resolved := Array.replicate 40 none
  statics := none }

def pool10 : Array CpInfo := pool [(1, .methodref 2 3), (0, .class_ 4), (0, .nameAndType 5 6), (0, u "java/lang/Exception"), (0, u "<init>"), (0, u "(Ljava/lang/String;)V"), (0, .class_ 8), (0, u "com/example/rungway/rungway/framework/InstallException"), (0, .class_ 10), (0, u "java/lang/StringBuilder"), (0, .methodref 9 12), (0, .nameAndType 5 13), (0, u "()V"), (0, .string 15), (0, u "invalid header "), (0, .methodref 9 17), (0, .nameAndType 18 19), (0, u "append"), (0, u "(Ljava/lang/String;)Ljava/lang/StringBuilder;"), (0, .methodref 9 21), (0, .nameAndType 22 23), (0, u "toString"), (0, u "()Ljava/lang/String;"), (0, .methodref 7 3), (0, u "serialVersionUID"), (0, u "J"), (5, u "invalidHeader"), (0, u "(Ljava/lang/String;)Lcom/example/rungway/rungway/framework/InstallException;")] 2

def k10c0 : Code := { maxStack := 2, maxLocals := 2, code := prog_8_method_1_code, exceptionTable := #[], attributes := #[] }
def k10m0 : Method := { name := "<init>", desc := "(Ljava/lang/String;)V", sig := { parameters := [(.object "java/lang/String")], returnType := none }, accessFlags := 0, code := some k10c0 }
def k10c1 : Code := { maxStack := 4, maxLocals := 1, code := prog_8_method_2_code, exceptionTable := #[], attributes := #[] }
def k10m1 : Method := { name := "invalidHeader", desc := "(Ljava/lang/String;)Lcom/example/rungway/rungway/framework/InstallException;", sig := { parameters := [(.object "java/lang/String")], returnType := some (.object "com/example/rungway/rungway/framework/InstallException") }, accessFlags := 8, code := some k10c1 }
/-- com/example/rungway/rungway/framework/InstallException -/
def k10 : Class := { plain "com/example/rungway/rungway/framework/InstallException" (some 9) with
  accessFlags := 49
  interfaces := #[]
  cf := some (fileOf pool10 7 #[] #[{ accessFlags := 0, nameIndex := 5, descriptorIndex := 6, attributes := #[] }, { accessFlags := 8, nameIndex := 32, descriptorIndex := 33, attributes := #[] }] 49 2 #[] #[{ accessFlags := 26, nameIndex := 25, descriptorIndex := 26, attributes := #[] }])
  fields := #[{ name := "serialVersionUID", type := .long, accessFlags := 26, slot := 0, constantValue := 0 }]
  methods := #[k10m0, k10m1]
  instanceTypes := #[(.object "java/lang/Object"), (.object "java/lang/String"), (.object "java/lang/Throwable"), (.array (.object "java/lang/StackTraceElement")), .int, (.object "java/util/List")]
  staticTypes := #[.long]
  resolved := Array.replicate 36 none
  statics := none }

def pool11 : Array CpInfo := pool [(1, .class_ 2), (0, u "java/lang/Appendable"), (0, .class_ 4), (0, u "java/lang/Object")] 9

/-- java/lang/Appendable -/
def k11 : Class := { plain "java/lang/Appendable" (some 0) with
  accessFlags := 1537
  interfaces := #[]
  cf := some (fileOf pool11 1 #[] #[] 1537 3 #[] #[])
  fields := #[]
  methods := #[]
  instanceTypes := #[]
  staticTypes := #[]
  resolved := Array.replicate 14 none
  statics := none }

def pool12 : Array CpInfo := pool [(1, .class_ 2), (0, u "java/lang/String"), (0, .methodref 4 5), (0, .class_ 6), (0, .nameAndType 7 8), (0, u "java/lang/Object"), (0, u "<init>"), (0, u "()V"), (1, .class_ 12), (1, u "java/lang/AbstractStringBuilder"), (0, u "EMPTYVALUE"), (0, u "[B"), (0, .fieldref 10 16), (0, .nameAndType 17 14), (0, u "value"), (0, .fieldref 1 19), (0, .nameAndType 20 21), (0, u "COMPACT_STRINGS"), (0, u "Z"), (0, .fieldref 10 23), (0, .nameAndType 24 25), (0, u "coder"), (0, u "B"), (6, .methodref 1 33), (0, .nameAndType 34 35), (0, u "length"), (0, u "()I"), (3, .integer 2147483647), (0, .methodref 1 41), (0, .nameAndType 24 42), (0, u "()B"), (2, u "append"), (0, u "(Ljava/lang/String;)Ljava/lang/AbstractStringBuilder;"), (1, .class_ 49), (0, u "java/lang/CharSequence"), (19, u "(Ljava/lang/String;)V"), (5, u "maybeLatin1"), (3, .fieldref 10 80), (0, .nameAndType 81 82), (0, u "count"), (0, u "I"), (2, u "isLatin1"), (0, u "()Z"), (13, .methodref 10 101), (0, .nameAndType 102 103), (0, u "ensureCapacityInternal"), (0, u "(I)V"), (0, .methodref 10 105), (0, .nameAndType 106 107), (0, u "newCapacity"), (0, u "(I)I"), (0, .methodref 109 110), (0, .class_ 111), (0, .nameAndType 112 113), (0, u "java/util/Arrays"), (0, u "copyOf"), (0, u "([BI)[B"), (0, .methodref 115 116), (0, .class_ 117), (0, .nameAndType 118 119), (0, u "jdk/internal/util/ArraysSupport"), (0, u "newLength"), (0, u "(III)I"), (88, .methodref 10 209), (0, .nameAndType 210 211), (0, u "putStringAt"), (0, u "(ILjava/lang/String;)V"), (5, u "inflateIfNeededFor"), (2, .nameAndType 221 222), (0, u "getBytes"), (0, u "([BIB)V"), (174, .methodref 10 398), (0, .nameAndType 217 69), (0, .methodref 1 220), (3, u "()[B"), (40, .class_ 445), (0, u "java/lang/Appendable"), (106, u "getValue")] 56

def k12m0 : Method := { name := "<init>", desc := "()V", sig := { parameters := [], returnType := none }, accessFlags := 0, code := none }
def k12c1 : Code := { maxStack := 2, maxLocals := 2, code := jdk_68_method_2_code, exceptionTable := #[], attributes := #[] }
def k12m1 : Method := { name := "<init>", desc := "(I)V", sig := { parameters := [.int], returnType := none }, accessFlags := 0, code := some k12c1 }
def k12c2 : Code := { maxStack := 1, maxLocals := 1, code := jdk_68_method_6_code, exceptionTable := #[], attributes := #[] }
def k12m2 : Method := { name := "length", desc := "()I", sig := { parameters := [], returnType := some .int }, accessFlags := 1, code := some k12c2 }
def k12c3 : Code := { maxStack := 4, maxLocals := 3, code := jdk_68_method_9_code, exceptionTable := #[], attributes := #[] }
def k12m3 : Method := { name := "ensureCapacityInternal", desc := "(I)V", sig := { parameters := [.int], returnType := none }, accessFlags := 2, code := some k12c3 }
def k12c4 : Code := { maxStack := 5, maxLocals := 6, code := jdk_68_method_10_code, exceptionTable := #[], attributes := #[] }
def k12m4 : Method := { name := "newCapacity", desc := "(I)I", sig := { parameters := [.int], returnType := some .int }, accessFlags := 2, code := some k12c4 }
def k12c5 : Code := { maxStack := 3, maxLocals := 3, code := jdk_68_method_22_code, exceptionTable := #[], attributes := #[] }
def k12m5 : Method := { name := "append", desc := "(Ljava/lang/String;)Ljava/lang/AbstractStringBuilder;", sig := { parameters := [(.object "java/lang/String")], returnType := some (.object "java/lang/AbstractStringBuilder") }, accessFlags := 1, code := some k12c5 }
def k12c6 : Code := { maxStack := 1, maxLocals := 1, code := jdk_68_method_64_code, exceptionTable := #[], attributes := #[] }
def k12m6 : Method := { name := "getValue", desc := "()[B", sig := { parameters := [], returnType := some (.array .byte) }, accessFlags := 16, code := some k12c6 }
def k12c7 : Code := { maxStack := 1, maxLocals := 1, code := jdk_68_method_68_code, exceptionTable := #[], attributes := #[] }
def k12m7 : Method := { name := "isLatin1", desc := "()Z", sig := { parameters := [], returnType := some .boolean }, accessFlags := 16, code := some k12c7 }
def k12c8 : Code := { maxStack := 2, maxLocals := 2, code := jdk_68_method_71_code, exceptionTable := #[], attributes := #[] }
def k12m8 : Method := { name := "inflateIfNeededFor", desc := "(Ljava/lang/String;)V", sig := { parameters := [(.object "java/lang/String")], returnType := none }, accessFlags := 2, code := some k12c8 }
def k12c9 : Code := { maxStack := 4, maxLocals := 3, code := jdk_68_method_73_code, exceptionTable := #[], attributes := #[] }
def k12m9 : Method := { name := "putStringAt", desc := "(ILjava/lang/String;)V", sig := { parameters := [.int, (.object "java/lang/String")], returnType := none }, accessFlags := 2, code := some k12c9 }
/-- java/lang/AbstractStringBuilder -/
def k12 : Class := { plain "java/lang/AbstractStringBuilder" (some 0) with
  accessFlags := 1056
  interfaces := #[11, 4]
  cf := some (fileOf pool12 10 #[] #[{ accessFlags := 0, nameIndex := 7, descriptorIndex := 8, attributes := #[] }, { accessFlags := 0, nameIndex := 7, descriptorIndex := 103, attributes := #[] }, { accessFlags := 1, nameIndex := 34, descriptorIndex := 35, attributes := #[] }, { accessFlags := 2, nameIndex := 102, descriptorIndex := 103, attributes := #[] }, { accessFlags := 2, nameIndex := 106, descriptorIndex := 107, attributes := #[] }, { accessFlags := 1, nameIndex := 45, descriptorIndex := 46, attributes := #[] }, { accessFlags := 16, nameIndex := 552, descriptorIndex := 403, attributes := #[] }, { accessFlags := 16, nameIndex := 85, descriptorIndex := 86, attributes := #[] }, { accessFlags := 2, nameIndex := 217, descriptorIndex := 69, attributes := #[] }, { accessFlags := 2, nameIndex := 210, descriptorIndex := 211, attributes := #[] }] 1056 4 #[444, 48] #[{ accessFlags := 0, nameIndex := 17, descriptorIndex := 14, attributes := #[] }, { accessFlags := 0, nameIndex := 24, descriptorIndex := 25, attributes := #[] }, { accessFlags := 0, nameIndex := 75, descriptorIndex := 21, attributes := #[] }, { accessFlags := 0, nameIndex := 81, descriptorIndex := 82, attributes := #[] }, { accessFlags := 26, nameIndex := 13, descriptorIndex := 14, attributes := #[] }])
  fields := #[{ name := "value", type := (.array .byte), accessFlags := 0, slot := 0, constantValue := 0 }, { name := "coder", type := .byte, accessFlags := 0, slot := 1, constantValue := 0 }, { name := "maybeLatin1", type := .boolean, accessFlags := 0, slot := 2, constantValue := 0 }, { name := "count", type := .int, accessFlags := 0, slot := 3, constantValue := 0 }, { name := "EMPTYVALUE", type := (.array .byte), accessFlags := 26, slot := 0, constantValue := 0 }]
  methods := #[k12m0, k12m1, k12m2, k12m3, k12m4, k12m5, k12m6, k12m7, k12m8, k12m9]
  instanceTypes := #[(.array .byte), .byte, .boolean, .int]
  staticTypes := #[(.array .byte)]
  resolved := Array.replicate 609 none
  statics := none }

def pool13 : Array CpInfo := pool [(1, .methodref 2 3), (0, .class_ 4), (0, .nameAndType 5 6), (0, u "java/lang/AbstractStringBuilder"), (0, u "<init>"), (0, u "(I)V"), (11, .class_ 20), (1, u "java/lang/String"), (3, .class_ 26), (1, u "java/lang/StringBuilder"), (0, u "append"), (0, u "(Ljava/lang/String;)Ljava/lang/StringBuilder;"), (0, .methodref 2 30), (0, .nameAndType 27 31), (0, u "(Ljava/lang/String;)Ljava/lang/AbstractStringBuilder;"), (105, .methodref 18 138), (0, .nameAndType 5 139), (0, u "(Ljava/lang/StringBuilder;)V"), (5, u "()V"), (10, u "()I"), (186, .methodref 2 344), (0, .nameAndType 345 156), (0, u "length"), (3, .class_ 350), (0, u "java/lang/Appendable"), (0, .class_ 352), (0, u "java/io/Serializable"), (0, .class_ 354), (0, u "java/lang/Comparable"), (0, .class_ 356), (0, u "java/lang/CharSequence"), (0, u "serialVersionUID"), (0, u "J"), (40, u "toString"), (0, u "()Ljava/lang/String;")] 21

def k13c0 : Code := { maxStack := 2, maxLocals := 1, code := jdk_67_method_1_code, exceptionTable := #[], attributes := #[] }
def k13m0 : Method := { name := "<init>", desc := "()V", sig := { parameters := [], returnType := none }, accessFlags := 1, code := some k13c0 }
def k13c1 : Code := { maxStack := 2, maxLocals := 2, code := jdk_67_method_7_code, exceptionTable := #[], attributes := #[] }
def k13m1 : Method := { name := "append", desc := "(Ljava/lang/String;)Ljava/lang/StringBuilder;", sig := { parameters := [(.object "java/lang/String")], returnType := some (.object "java/lang/StringBuilder") }, accessFlags := 1, code := some k13c1 }
def k13c2 : Code := { maxStack := 3, maxLocals := 1, code := jdk_67_method_42_code, exceptionTable := #[], attributes := #[] }
def k13m2 : Method := { name := "toString", desc := "()Ljava/lang/String;", sig := { parameters := [], returnType := some (.object "java/lang/String") }, accessFlags := 1, code := some k13c2 }
def k13c3 : Code := { maxStack := 1, maxLocals := 1, code := jdk_67_method_93_code, exceptionTable := #[], attributes := #[] }
def k13m3 : Method := { name := "length", desc := "()I", sig := { parameters := [], returnType := some .int }, accessFlags := 4161, code := some k13c3 }
/-- java/lang/StringBuilder -/
def k13 : Class := { plain "java/lang/StringBuilder" (some 12) with
  accessFlags := 49
  interfaces := #[11, 2, 3, 4]
  cf := some (fileOf pool13 24 #[] #[{ accessFlags := 1, nameIndex := 5, descriptorIndex := 145, attributes := #[] }, { accessFlags := 1, nameIndex := 27, descriptorIndex := 28, attributes := #[] }, { accessFlags := 1, nameIndex := 399, descriptorIndex := 400, attributes := #[] }, { accessFlags := 4161, nameIndex := 345, descriptorIndex := 156, attributes := #[] }] 49 2 #[349, 351, 353, 355] #[{ accessFlags := 24, nameIndex := 357, descriptorIndex := 358, attributes := #[] }])
  fields := #[{ name := "serialVersionUID", type := .long, accessFlags := 24, slot := 0, constantValue := 0 }]
  methods := #[k13m0, k13m1, k13m2, k13m3]
  instanceTypes := #[(.array .byte), .byte, .boolean, .int]
  staticTypes := #[.long]
  resolved := Array.replicate 422 none
  statics := none }

def pool14 : Array CpInfo := pool [(2, .class_ 4), (1, u "java/lang/Object"), (0, u "<init>"), (0, u "()V"), (1, .class_ 10), (1, u "java/lang/System"), (0, u "allowSecurityManager"), (0, u "I"), (16, u "cons"), (0, u "Ljava/io/Console;"), (77, .class_ 110), (1, u "java/lang/System$CallersHolder"), (43, u "initialErrStream"), (0, u "Ljava/io/PrintStream;"), (19, u "security"), (0, u "Ljava/lang/SecurityManager;"), (31, .class_ 209), (0, u "java/lang/System$1"), (7, u "props"), (0, u "Ljava/util/Properties;"), (2, u "lineSeparator"), (0, u "Ljava/lang/String;"), (96, .class_ 321), (1, u "java/lang/System$LoggerFinder"), (5, .class_ 328), (0, u "java/lang/System$Logger"), (67, u "err"), (2, u "out"), (91, u "notSupportedJnuEncoding"), (15, u "in"), (17, u "initialIn"), (0, u "Ljava/io/InputStream;"), (35, u "bootLayer"), (0, u "Ljava/lang/ModuleLayer;"), (99, .class_ 664), (0, u "java/lang/System$2"), (9, u "NEVER"), (2, u "MAYBE"), (49, u "arraycopy"), (0, u "(Ljava/lang/Object;ILjava/lang/Object;II)V"), (72, .class_ 802), (0, u "java/lang/System$Logger$Level")] 31

def k14m0 : Method := { name := "<init>", desc := "()V", sig := { parameters := [], returnType := none }, accessFlags := 2, code := none }
def k14m1 : Method := { name := "arraycopy", desc := "(Ljava/lang/Object;ILjava/lang/Object;II)V", sig := { parameters := [(.object "java/lang/Object"), .int, (.object "java/lang/Object"), .int, .int], returnType := none }, accessFlags := 265, code := none }
/-- java/lang/System -/
def k14 : Class := { plain "java/lang/System" (some 0) with
  accessFlags := 49
  interfaces := #[]
  cf := some (fileOf pool14 8 #[.nestMembers #[319, 327, 801, 108, 663, 208]] #[{ accessFlags := 2, nameIndex := 5, descriptorIndex := 6, attributes := #[] }, { accessFlags := 265, nameIndex := 727, descriptorIndex := 728, attributes := #[] }] 49 2 #[] #[{ accessFlags := 25, nameIndex := 507, descriptorIndex := 526, attributes := #[] }, { accessFlags := 25, nameIndex := 399, descriptorIndex := 155, attributes := #[] }, { accessFlags := 25, nameIndex := 396, descriptorIndex := 155, attributes := #[] }, { accessFlags := 10, nameIndex := 525, descriptorIndex := 526, attributes := #[] }, { accessFlags := 26, nameIndex := 674, descriptorIndex := 12, attributes := #[] }, { accessFlags := 26, nameIndex := 677, descriptorIndex := 12, attributes := #[] }, { accessFlags := 10, nameIndex := 11, descriptorIndex := 12, attributes := #[] }, { accessFlags := 74, nameIndex := 175, descriptorIndex := 176, attributes := #[] }, { accessFlags := 10, nameIndex := 491, descriptorIndex := 222, attributes := #[] }, { accessFlags := 74, nameIndex := 29, descriptorIndex := 30, attributes := #[] }, { accessFlags := 74, nameIndex := 154, descriptorIndex := 155, attributes := #[] }, { accessFlags := 10, nameIndex := 217, descriptorIndex := 218, attributes := #[] }, { accessFlags := 10, nameIndex := 221, descriptorIndex := 222, attributes := #[] }, { accessFlags := 8, nameIndex := 562, descriptorIndex := 563, attributes := #[] }])
  fields := #[{ name := "in", type := (.object "java/io/InputStream"), accessFlags := 25, slot := 0, constantValue := 0 }, { name := "out", type := (.object "java/io/PrintStream"), accessFlags := 25, slot := 1, constantValue := 0 }, { name := "err", type := (.object "java/io/PrintStream"), accessFlags := 25, slot := 2, constantValue := 0 }, { name := "initialIn", type := (.object "java/io/InputStream"), accessFlags := 10, slot := 3, constantValue := 0 }, { name := "NEVER", type := .int, accessFlags := 26, slot := 4, constantValue := 0 }, { name := "MAYBE", type := .int, accessFlags := 26, slot := 5, constantValue := 0 }, { name := "allowSecurityManager", type := .int, accessFlags := 10, slot := 6, constantValue := 0 }, { name := "security", type := (.object "java/lang/SecurityManager"), accessFlags := 74, slot := 7, constantValue := 0 }, { name := "notSupportedJnuEncoding", type := (.object "java/lang/String"), accessFlags := 10, slot := 8, constantValue := 0 }, { name := "cons", type := (.object "java/io/Console"), accessFlags := 74, slot := 9, constantValue := 0 }, { name := "initialErrStream", type := (.object "java/io/PrintStream"), accessFlags := 74, slot := 10, constantValue := 0 }, { name := "props", type := (.object "java/util/Properties"), accessFlags := 10, slot := 11, constantValue := 0 }, { name := "lineSeparator", type := (.object "java/lang/String"), accessFlags := 10, slot := 12, constantValue := 0 }, { name := "bootLayer", type := (.object "java/lang/ModuleLayer"), accessFlags := 8, slot := 13, constantValue := 0 }]
  methods := #[k14m0, k14m1]
  instanceTypes := #[]
  staticTypes := #[(.object "java/io/InputStream"), (.object "java/io/PrintStream"), (.object "java/io/PrintStream"), (.object "java/io/InputStream"), .int, .int, .int, (.object "java/lang/SecurityManager"), (.object "java/lang/String"), (.object "java/io/Console"), (.object "java/io/PrintStream"), (.object "java/util/Properties"), (.object "java/lang/String"), (.object "java/lang/ModuleLayer")]
  resolved := Array.replicate 834 none
  statics := none }

def pool15 : Array CpInfo := pool [(2, .class_ 4), (1, u "java/lang/Object"), (0, u "<init>"), (0, u "()V"), (7, .class_ 16), (1, u "java/util/Arrays"), (57, .class_ 76), (1, u "java/util/Arrays$NaturalOrder"), (32, u "()Ljava/lang/Object;"), (3, .class_ 115), (1, u "java/util/Arrays$LegacyMergeSort"), (1, u "Z"), (10, .nameAndType 129 109), (0, u "clone"), (9, u "copyOfRange"), (10, .methodref 151 152), (0, .class_ 153), (0, .nameAndType 154 155), (0, u "java/lang/System"), (0, u "arraycopy"), (0, u "(Ljava/lang/Object;ILjava/lang/Object;II)V"), (146, u "copyOf"), (1, .methodref 305 306), (0, .class_ 307), (0, .nameAndType 308 309), (0, u "java/lang/Math"), (0, u "min"), (0, u "(II)I"), (0, .methodref 311 128), (0, .class_ 312), (0, u "[B"), (26, .methodref 14 340), (0, .nameAndType 341 342), (0, u "copyOfRangeByte"), (0, u "([BII)[B"), (0, .methodref 14 344), (0, .nameAndType 345 346), (0, u "checkLength"), (0, u "(II)V"), (28, .class_ 376), (0, u "java/util/Arrays$ArrayList"), (68, u "$assertionsDisabled"), (269, u "MIN_ARRAY_SORT_GRAN"), (0, u "I"), (2, u "INSERTIONSORT_THRESHOLD"), (149, u "([BI)[B"), (105, .class_ 976), (0, u "java/util/Arrays$ArrayItr")] 52

def k15m0 : Method := { name := "<init>", desc := "()V", sig := { parameters := [], returnType := none }, accessFlags := 2, code := none }
def k15c1 : Code := { maxStack := 6, maxLocals := 3, code := jdk_65_method_121_code, exceptionTable := #[], attributes := #[] }
def k15m1 : Method := { name := "copyOf", desc := "([BI)[B", sig := { parameters := [(.array .byte), .int], returnType := some (.array .byte) }, accessFlags := 9, code := some k15c1 }
def k15c2 : Code := { maxStack := 4, maxLocals := 2, code := jdk_65_method_131_code, exceptionTable := #[], attributes := #[] }
def k15m2 : Method := { name := "checkLength", desc := "(II)V", sig := { parameters := [.int, .int], returnType := none }, accessFlags := 10, code := some k15c2 }
def k15c3 : Code := { maxStack := 3, maxLocals := 3, code := jdk_65_method_132_code, exceptionTable := #[], attributes := #[] }
def k15m3 : Method := { name := "copyOfRange", desc := "([BII)[B", sig := { parameters := [(.array .byte), .int, .int], returnType := some (.array .byte) }, accessFlags := 9, code := some k15c3 }
def k15c4 : Code := { maxStack := 6, maxLocals := 5, code := jdk_65_method_133_code, exceptionTable := #[], attributes := #[] }
def k15m4 : Method := { name := "copyOfRangeByte", desc := "([BII)[B", sig := { parameters := [(.array .byte), .int, .int], returnType := some (.array .byte) }, accessFlags := 10, code := some k15c4 }
/-- java/util/Arrays -/
def k15 : Class := { plain "java/util/Arrays" (some 0) with
  accessFlags := 49
  interfaces := #[]
  cf := some (fileOf pool15 14 #[.nestMembers #[975, 375, 113, 74]] #[{ accessFlags := 2, nameIndex := 5, descriptorIndex := 6, attributes := #[] }, { accessFlags := 9, nameIndex := 302, descriptorIndex := 869, attributes := #[] }, { accessFlags := 10, nameIndex := 345, descriptorIndex := 346, attributes := #[] }, { accessFlags := 9, nameIndex := 139, descriptorIndex := 342, attributes := #[] }, { accessFlags := 10, nameIndex := 341, descriptorIndex := 342, attributes := #[] }] 49 2 #[] #[{ accessFlags := 26, nameIndex := 715, descriptorIndex := 716, attributes := #[] }, { accessFlags := 26, nameIndex := 719, descriptorIndex := 716, attributes := #[] }, { accessFlags := 4120, nameIndex := 445, descriptorIndex := 117, attributes := #[] }])
  fields := #[{ name := "MIN_ARRAY_SORT_GRAN", type := .int, accessFlags := 26, slot := 0, constantValue := 0 }, { name := "INSERTIONSORT_THRESHOLD", type := .int, accessFlags := 26, slot := 1, constantValue := 0 }, { name := "$assertionsDisabled", type := .boolean, accessFlags := 4120, slot := 2, constantValue := 0 }]
  methods := #[k15m0, k15m1, k15m2, k15m3, k15m4]
  instanceTypes := #[]
  staticTypes := #[.int, .int, .boolean]
  resolved := Array.replicate 1029 none
  statics := none }

def pool16 : Array CpInfo := pool [(1, .class_ 2), (0, u "java/lang/Math"), (1, .class_ 6), (1, u "java/lang/Object"), (0, u "<init>"), (0, u "()V"), (89, .class_ 100), (1, u "java/lang/Math$RandomNumberGeneratorHolder"), (71, u "negativeZeroFloatBits"), (0, u "J"), (2, u "negativeZeroDoubleBits"), (21, u "max"), (2, u "min"), (43, u "$assertionsDisabled"), (0, u "Z"), (88, u "(II)I"), (2, u "twoToTheDoubleScaleDown"), (0, u "D"), (4, u "twoToTheDoubleScaleUp"), (9, u "E"), (3, u "PI"), (2, u "TAU"), (2, u "DEGREES_TO_RADIANS"), (0, u "RADIANS_TO_DEGREES")] 94

def k16m0 : Method := { name := "<init>", desc := "()V", sig := { parameters := [], returnType := none }, accessFlags := 2, code := none }
def k16c1 : Code := { maxStack := 2, maxLocals := 2, code := jdk_29_method_65_code, exceptionTable := #[], attributes := #[] }
def k16m1 : Method := { name := "max", desc := "(II)I", sig := { parameters := [.int, .int], returnType := some .int }, accessFlags := 9, code := some k16c1 }
def k16c2 : Code := { maxStack := 2, maxLocals := 2, code := jdk_29_method_69_code, exceptionTable := #[], attributes := #[] }
def k16m2 : Method := { name := "min", desc := "(II)I", sig := { parameters := [.int, .int], returnType := some .int }, accessFlags := 9, code := some k16c2 }
/-- java/lang/Math -/
def k16 : Class := { plain "java/lang/Math" (some 0) with
  accessFlags := 49
  interfaces := #[]
  cf := some (fileOf pool16 1 #[.nestMembers #[98]] #[{ accessFlags := 2, nameIndex := 7, descriptorIndex := 8, attributes := #[] }, { accessFlags := 9, nameIndex := 198, descriptorIndex := 335, attributes := #[] }, { accessFlags := 9, nameIndex := 201, descriptorIndex := 335, attributes := #[] }] 49 4 #[] #[{ accessFlags := 25, nameIndex := 354, descriptorIndex := 339, attributes := #[] }, { accessFlags := 25, nameIndex := 358, descriptorIndex := 339, attributes := #[] }, { accessFlags := 25, nameIndex := 361, descriptorIndex := 339, attributes := #[] }, { accessFlags := 26, nameIndex := 364, descriptorIndex := 339, attributes := #[] }, { accessFlags := 26, nameIndex := 365, descriptorIndex := 339, attributes := #[] }, { accessFlags := 26, nameIndex := 172, descriptorIndex := 173, attributes := #[] }, { accessFlags := 26, nameIndex := 176, descriptorIndex := 173, attributes := #[] }, { accessFlags := 8, nameIndex := 344, descriptorIndex := 339, attributes := #[] }, { accessFlags := 8, nameIndex := 338, descriptorIndex := 339, attributes := #[] }, { accessFlags := 4120, nameIndex := 245, descriptorIndex := 246, attributes := #[] }])
  fields := #[{ name := "E", type := .double, accessFlags := 25, slot := 0, constantValue := 0 }, { name := "PI", type := .double, accessFlags := 25, slot := 1, constantValue := 0 }, { name := "TAU", type := .double, accessFlags := 25, slot := 2, constantValue := 0 }, { name := "DEGREES_TO_RADIANS", type := .double, accessFlags := 26, slot := 3, constantValue := 0 }, { name := "RADIANS_TO_DEGREES", type := .double, accessFlags := 26, slot := 4, constantValue := 0 }, { name := "negativeZeroFloatBits", type := .long, accessFlags := 26, slot := 5, constantValue := 0 }, { name := "negativeZeroDoubleBits", type := .long, accessFlags := 26, slot := 6, constantValue := 0 }, { name := "twoToTheDoubleScaleUp", type := .double, accessFlags := 8, slot := 7, constantValue := 0 }, { name := "twoToTheDoubleScaleDown", type := .double, accessFlags := 8, slot := 8, constantValue := 0 }, { name := "$assertionsDisabled", type := .boolean, accessFlags := 4120, slot := 9, constantValue := 0 }]
  methods := #[k16m0, k16m1, k16m2]
  instanceTypes := #[]
  staticTypes := #[.double, .double, .double, .double, .double, .long, .long, .double, .double, .boolean]
  resolved := Array.replicate 460 none
  statics := none }

def pool17 : Array CpInfo := pool [(1, .class_ 2), (0, u "java/lang/String"), (1, .class_ 6), (1, u "java/lang/Object"), (0, u "<init>"), (0, u "()V"), (0, .methodref 1 10), (0, .nameAndType 11 12), (0, u "checkIndex"), (0, u "(II)V"), (1, .class_ 16), (1, u "java/lang/StringLatin1"), (36, u "([BI)C"), (36, u "canEncode"), (14, u "(C)Z"), (15, u "$assertionsDisabled"), (0, u "Z"), (98, .class_ 223), (1, u "java/lang/StringLatin1$LinesSpliterator"), (28, u "charAt"), (127, u "toBytes"), (1, u "(C)[B"), (7, .class_ 391), (0, u "java/lang/StringLatin1$CharsSpliterator")] 3

def k17m0 : Method := { name := "<init>", desc := "()V", sig := { parameters := [], returnType := none }, accessFlags := 0, code := none }
def k17c1 : Code := { maxStack := 2, maxLocals := 2, code := jdk_43_method_2_code, exceptionTable := #[], attributes := #[] }
def k17m1 : Method := { name := "charAt", desc := "([BI)C", sig := { parameters := [(.array .byte), .int], returnType := some .char }, accessFlags := 9, code := some k17c1 }
def k17c2 : Code := { maxStack := 2, maxLocals := 1, code := jdk_43_method_3_code, exceptionTable := #[], attributes := #[] }
def k17m2 : Method := { name := "canEncode", desc := "(C)Z", sig := { parameters := [.char], returnType := some .boolean }, accessFlags := 9, code := some k17c2 }
def k17c3 : Code := { maxStack := 4, maxLocals := 1, code := jdk_43_method_46_code, exceptionTable := #[], attributes := #[] }
def k17m3 : Method := { name := "toBytes", desc := "(C)[B", sig := { parameters := [.char], returnType := some (.array .byte) }, accessFlags := 9, code := some k17c3 }
/-- java/lang/StringLatin1 -/
def k17 : Class := { plain "java/lang/StringLatin1" (some 0) with
  accessFlags := 48
  interfaces := #[]
  cf := some (fileOf pool17 14 #[.nestMembers #[390, 221]] #[{ accessFlags := 0, nameIndex := 7, descriptorIndex := 8, attributes := #[] }, { accessFlags := 9, nameIndex := 252, descriptorIndex := 53, attributes := #[] }, { accessFlags := 9, nameIndex := 90, descriptorIndex := 105, attributes := #[] }, { accessFlags := 9, nameIndex := 380, descriptorIndex := 382, attributes := #[] }] 48 4 #[] #[{ accessFlags := 4120, nameIndex := 121, descriptorIndex := 122, attributes := #[] }])
  fields := #[{ name := "$assertionsDisabled", type := .boolean, accessFlags := 4120, slot := 0, constantValue := 0 }]
  methods := #[k17m0, k17m1, k17m2, k17m3]
  instanceTypes := #[]
  staticTypes := #[.boolean]
  resolved := Array.replicate 395 none
  statics := none }

def pool18 : Array CpInfo := pool [(2, .class_ 4), (1, u "java/lang/Object"), (0, u "<init>"), (0, u "()V"), (17, .class_ 26), (1, u "jdk/internal/util/Preconditions"), (6, u "checkIndex"), (21, .class_ 56), (0, u "jdk/internal/util/Preconditions$4"), (57, .class_ 115), (0, u "jdk/internal/util/Preconditions$1"), (7, u "SIOOBE_FORMATTER"), (0, u "Ljava/util/function/BiFunction;"), (0, .class_ 126), (0, u "jdk/internal/util/Preconditions$2"), (3, u "AIOOBE_FORMATTER"), (0, .class_ 132), (0, u "jdk/internal/util/Preconditions$3"), (3, u "IOOBE_FORMATTER"), (41, u "(IILjava/util/function/BiFunction;)I")] 15

def k18m0 : Method := { name := "<init>", desc := "()V", sig := { parameters := [], returnType := none }, accessFlags := 1, code := none }
def k18c1 : Code := { maxStack := 3, maxLocals := 3, code := jdk_41_method_11_code, exceptionTable := #[], attributes := #[] }
def k18m1 : Method := { name := "checkIndex", desc := "(IILjava/util/function/BiFunction;)I", sig := { parameters := [.int, .int, (.object "java/util/function/BiFunction")], returnType := some .int }, accessFlags := 9, code := some k18c1 }
/-- jdk/internal/util/Preconditions -/
def k18 : Class := { plain "jdk/internal/util/Preconditions" (some 0) with
  accessFlags := 33
  interfaces := #[]
  cf := some (fileOf pool18 24 #[.nestMembers #[55, 131, 125, 114]] #[{ accessFlags := 1, nameIndex := 5, descriptorIndex := 6, attributes := #[] }, { accessFlags := 9, nameIndex := 33, descriptorIndex := 178, attributes := #[] }] 33 2 #[] #[{ accessFlags := 25, nameIndex := 123, descriptorIndex := 124, attributes := #[] }, { accessFlags := 25, nameIndex := 130, descriptorIndex := 124, attributes := #[] }, { accessFlags := 25, nameIndex := 136, descriptorIndex := 124, attributes := #[] }])
  fields := #[{ name := "SIOOBE_FORMATTER", type := (.object "java/util/function/BiFunction"), accessFlags := 25, slot := 0, constantValue := 0 }, { name := "AIOOBE_FORMATTER", type := (.object "java/util/function/BiFunction"), accessFlags := 25, slot := 1, constantValue := 0 }, { name := "IOOBE_FORMATTER", type := (.object "java/util/function/BiFunction"), accessFlags := 25, slot := 2, constantValue := 0 }]
  methods := #[k18m0, k18m1]
  instanceTypes := #[]
  staticTypes := #[(.object "java/util/function/BiFunction"), (.object "java/util/function/BiFunction"), (.object "java/util/function/BiFunction")]
  resolved := Array.replicate 194 none
  statics := some 2 }

def pool19 : Array CpInfo := pool [(6, .class_ 8), (1, u "java/lang/Object"), (0, u "<init>"), (0, u "()V"), (1, .class_ 14), (1, u "java/lang/StringUTF16"), (31, u "$assertionsDisabled"), (0, u "Z"), (13, u "HI_BYTE_SHIFT"), (0, u "I"), (2, u "LO_BYTE_SHIFT"), (49, .methodref 12 116), (0, .nameAndType 117 118), (0, u "compress"), (0, u "([CI[BII)I"), (3, u "([CII)[B"), (138, u "coderFromArrayLen"), (0, u "([BI)B"), (106, .class_ 371), (1, u "java/lang/StringUTF16$LinesSpliterator"), (58, u "MAX_LENGTH"), (196, .class_ 628), (0, u "java/lang/StringUTF16$CodePointsSpliterator"), (0, .class_ 630), (0, u "java/lang/StringUTF16$CharsSpliterator")] 4

def k19m0 : Method := { name := "<init>", desc := "()V", sig := { parameters := [], returnType := none }, accessFlags := 0, code := none }
def k19c1 : Code := { maxStack := 2, maxLocals := 2, code := jdk_52_method_15_code, exceptionTable := #[], attributes := #[] }
def k19m1 : Method := { name := "coderFromArrayLen", desc := "([BI)B", sig := { parameters := [(.array .byte), .int], returnType := some .byte }, accessFlags := 8, code := some k19c1 }
def k19c2 : Code := { maxStack := 5, maxLocals := 6, code := jdk_52_method_16_code, exceptionTable := #[], attributes := #[] }
def k19m2 : Method := { name := "compress", desc := "([CII)[B", sig := { parameters := [(.array .char), .int, .int], returnType := some (.array .byte) }, accessFlags := 9, code := some k19c2 }
def k19c3 : Code := { maxStack := 3, maxLocals := 7, code := jdk_52_method_21_code, exceptionTable := #[], attributes := #[] }
def k19m3 : Method := { name := "compress", desc := "([CI[BII)I", sig := { parameters := [(.array .char), .int, (.array .byte), .int, .int], returnType := some .int }, accessFlags := 9, code := some k19c3 }
/-- java/lang/StringUTF16 -/
def k19 : Class := { plain "java/lang/StringUTF16" (some 0) with
  accessFlags := 48
  interfaces := #[]
  cf := some (fileOf pool19 12 #[.nestMembers #[627, 629, 369]] #[{ accessFlags := 0, nameIndex := 9, descriptorIndex := 10, attributes := #[] }, { accessFlags := 8, nameIndex := 261, descriptorIndex := 262, attributes := #[] }, { accessFlags := 9, nameIndex := 117, descriptorIndex := 122, attributes := #[] }, { accessFlags := 9, nameIndex := 117, descriptorIndex := 118, attributes := #[] }] 48 6 #[] #[{ accessFlags := 26, nameIndex := 61, descriptorIndex := 62, attributes := #[] }, { accessFlags := 26, nameIndex := 65, descriptorIndex := 62, attributes := #[] }, { accessFlags := 24, nameIndex := 430, descriptorIndex := 62, attributes := #[] }, { accessFlags := 4120, nameIndex := 46, descriptorIndex := 47, attributes := #[] }])
  fields := #[{ name := "HI_BYTE_SHIFT", type := .int, accessFlags := 26, slot := 0, constantValue := 0 }, { name := "LO_BYTE_SHIFT", type := .int, accessFlags := 26, slot := 1, constantValue := 0 }, { name := "MAX_LENGTH", type := .int, accessFlags := 24, slot := 2, constantValue := 0 }, { name := "$assertionsDisabled", type := .boolean, accessFlags := 4120, slot := 3, constantValue := 0 }]
  methods := #[k19m0, k19m1, k19m2, k19m3]
  instanceTypes := #[]
  staticTypes := #[.int, .int, .int, .boolean]
  resolved := Array.replicate 635 none
  statics := none }

def pool20 : Array CpInfo := pool [(9, u "<init>"), (6, .class_ 18), (1, u "java/lang/Object"), (0, u "()V"), (1, .class_ 23), (1, u "jdk/internal/util/ArraysSupport"), (0, u "LOG2_ARRAY_LONG_INDEX_SCALE"), (0, u "I"), (2, u "U"), (0, u "Ljdk/internal/misc/Unsafe;"), (8, u "BIG_ENDIAN"), (0, u "Z"), (8, u "LOG2_BYTE_BIT_SIZE"), (4, u "LOG2_ARRAY_INT_INDEX_SCALE"), (54, u "JLA"), (0, u "Ljdk/internal/access/JavaLangAccess;"), (11, u "LOG2_ARRAY_BOOLEAN_INDEX_SCALE"), (9, u "LOG2_ARRAY_BYTE_INDEX_SCALE"), (5, u "LOG2_ARRAY_CHAR_INDEX_SCALE"), (5, u "LOG2_ARRAY_SHORT_INDEX_SCALE"), (18, u "LOG2_ARRAY_FLOAT_INDEX_SCALE"), (24, u "LOG2_ARRAY_DOUBLE_INDEX_SCALE"), (6, .methodref 195 196), (0, .class_ 197), (0, .nameAndType 198 199), (0, u "java/lang/Math"), (0, u "max"), (0, u "(II)I"), (0, .integer 2147483639), (76, u "T_BOOLEAN"), (2, u "T_CHAR"), (1, u "T_FLOAT"), (1, u "T_DOUBLE"), (1, u "T_BYTE"), (1, u "T_SHORT"), (1, u "T_INT"), (1, u "T_LONG"), (1, u "SOFT_MAX_ARRAY_LENGTH"), (56, u "newLength"), (0, u "(III)I")] 25

def k20m0 : Method := { name := "<init>", desc := "()V", sig := { parameters := [], returnType := none }, accessFlags := 2, code := none }
def k20c1 : Code := { maxStack := 3, maxLocals := 4, code := jdk_48_method_27_code, exceptionTable := #[], attributes := #[] }
def k20m1 : Method := { name := "newLength", desc := "(III)I", sig := { parameters := [.int, .int, .int], returnType := some .int }, accessFlags := 9, code := some k20c1 }
/-- jdk/internal/util/ArraysSupport -/
def k20 : Class := { plain "jdk/internal/util/ArraysSupport" (some 0) with
  accessFlags := 33
  interfaces := #[]
  cf := some (fileOf pool20 21 #[] #[{ accessFlags := 2, nameIndex := 9, descriptorIndex := 19, attributes := #[] }, { accessFlags := 9, nameIndex := 351, descriptorIndex := 352, attributes := #[] }] 33 16 #[] #[{ accessFlags := 24, nameIndex := 28, descriptorIndex := 29, attributes := #[] }, { accessFlags := 26, nameIndex := 38, descriptorIndex := 39, attributes := #[] }, { accessFlags := 25, nameIndex := 121, descriptorIndex := 25, attributes := #[] }, { accessFlags := 25, nameIndex := 131, descriptorIndex := 25, attributes := #[] }, { accessFlags := 25, nameIndex := 137, descriptorIndex := 25, attributes := #[] }, { accessFlags := 25, nameIndex := 143, descriptorIndex := 25, attributes := #[] }, { accessFlags := 25, nameIndex := 53, descriptorIndex := 25, attributes := #[] }, { accessFlags := 25, nameIndex := 24, descriptorIndex := 25, attributes := #[] }, { accessFlags := 25, nameIndex := 162, descriptorIndex := 25, attributes := #[] }, { accessFlags := 25, nameIndex := 187, descriptorIndex := 25, attributes := #[] }, { accessFlags := 26, nameIndex := 48, descriptorIndex := 25, attributes := #[] }, { accessFlags := 25, nameIndex := 277, descriptorIndex := 25, attributes := #[] }, { accessFlags := 25, nameIndex := 280, descriptorIndex := 25, attributes := #[] }, { accessFlags := 25, nameIndex := 282, descriptorIndex := 25, attributes := #[] }, { accessFlags := 25, nameIndex := 284, descriptorIndex := 25, attributes := #[] }, { accessFlags := 25, nameIndex := 286, descriptorIndex := 25, attributes := #[] }, { accessFlags := 25, nameIndex := 288, descriptorIndex := 25, attributes := #[] }, { accessFlags := 25, nameIndex := 290, descriptorIndex := 25, attributes := #[] }, { accessFlags := 25, nameIndex := 292, descriptorIndex := 25, attributes := #[] }, { accessFlags := 26, nameIndex := 108, descriptorIndex := 109, attributes := #[] }, { accessFlags := 25, nameIndex := 294, descriptorIndex := 25, attributes := #[] }])
  fields := #[{ name := "U", type := (.object "jdk/internal/misc/Unsafe"), accessFlags := 24, slot := 0, constantValue := 0 }, { name := "BIG_ENDIAN", type := .boolean, accessFlags := 26, slot := 1, constantValue := 0 }, { name := "LOG2_ARRAY_BOOLEAN_INDEX_SCALE", type := .int, accessFlags := 25, slot := 2, constantValue := 0 }, { name := "LOG2_ARRAY_BYTE_INDEX_SCALE", type := .int, accessFlags := 25, slot := 3, constantValue := 0 }, { name := "LOG2_ARRAY_CHAR_INDEX_SCALE", type := .int, accessFlags := 25, slot := 4, constantValue := 0 }, { name := "LOG2_ARRAY_SHORT_INDEX_SCALE", type := .int, accessFlags := 25, slot := 5, constantValue := 0 }, { name := "LOG2_ARRAY_INT_INDEX_SCALE", type := .int, accessFlags := 25, slot := 6, constantValue := 0 }, { name := "LOG2_ARRAY_LONG_INDEX_SCALE", type := .int, accessFlags := 25, slot := 7, constantValue := 0 }, { name := "LOG2_ARRAY_FLOAT_INDEX_SCALE", type := .int, accessFlags := 25, slot := 8, constantValue := 0 }, { name := "LOG2_ARRAY_DOUBLE_INDEX_SCALE", type := .int, accessFlags := 25, slot := 9, constantValue := 0 }, { name := "LOG2_BYTE_BIT_SIZE", type := .int, accessFlags := 26, slot := 10, constantValue := 0 }, { name := "T_BOOLEAN", type := .int, accessFlags := 25, slot := 11, constantValue := 0 }, { name := "T_CHAR", type := .int, accessFlags := 25, slot := 12, constantValue := 0 }, { name := "T_FLOAT", type := .int, accessFlags := 25, slot := 13, constantValue := 0 }, { name := "T_DOUBLE", type := .int, accessFlags := 25, slot := 14, constantValue := 0 }, { name := "T_BYTE", type := .int, accessFlags := 25, slot := 15, constantValue := 0 }, { name := "T_SHORT", type := .int, accessFlags := 25, slot := 16, constantValue := 0 }, { name := "T_INT", type := .int, accessFlags := 25, slot := 17, constantValue := 0 }, { name := "T_LONG", type := .int, accessFlags := 25, slot := 18, constantValue := 0 }, { name := "JLA", type := (.object "jdk/internal/access/JavaLangAccess"), accessFlags := 26, slot := 19, constantValue := 0 }, { name := "SOFT_MAX_ARRAY_LENGTH", type := .int, accessFlags := 25, slot := 20, constantValue := 0 }]
  methods := #[k20m0, k20m1]
  instanceTypes := #[]
  staticTypes := #[(.object "jdk/internal/misc/Unsafe"), .boolean, .int, .int, .int, .int, .int, .int, .int, .int, .int, .int, .int, .int, .int, .int, .int, .int, .int, (.object "jdk/internal/access/JavaLangAccess"), .int]
  resolved := Array.replicate 378 none
  statics := none }

def pool21 : Array CpInfo := pool [(1, .class_ 2), (0, u "java/lang/Cloneable"), (0, .class_ 4), (0, u "java/lang/Object")] 2

/-- java/lang/Cloneable -/
def k21 : Class := { plain "java/lang/Cloneable" (some 0) with
  accessFlags := 1537
  interfaces := #[]
  cf := some (fileOf pool21 1 #[] #[] 1537 3 #[] #[])
  fields := #[]
  methods := #[]
  instanceTypes := #[]
  staticTypes := #[]
  resolved := Array.replicate 7 none
  statics := none }

def pool22 : Array CpInfo := pool [(2, .class_ 4), (1, u "java/lang/Object"), (0, u "<init>"), (0, u "()V"), (12, .class_ 20), (0, u "java/util/Collections"), (63, u "r"), (0, u "Ljava/util/Random;"), (80, .class_ 167), (0, u "java/util/Collections$UnmodifiableCollection"), (6, .class_ 175), (0, u "java/util/Collections$UnmodifiableSequencedCollection"), (6, .class_ 183), (0, u "java/util/Collections$UnmodifiableSet"), (6, .class_ 191), (0, u "java/util/Collections$UnmodifiableSequencedSet"), (6, .class_ 199), (0, u "java/util/Collections$UnmodifiableSortedSet"), (6, .class_ 207), (0, u "java/util/Collections$UnmodifiableNavigableSet"), (4, .class_ 213), (0, u "java/util/Collections$UnmodifiableList"), (1, .class_ 216), (0, u "java/util/Collections$UnmodifiableRandomAccessList"), (6, .class_ 224), (0, u "java/util/Collections$UnmodifiableMap"), (6, .class_ 232), (0, u "java/util/Collections$UnmodifiableSequencedMap"), (4, .class_ 238), (0, u "java/util/Collections$UnmodifiableSortedMap"), (6, .class_ 246), (0, u "java/util/Collections$UnmodifiableNavigableMap"), (3, .class_ 251), (0, u "java/util/Collections$SynchronizedCollection"), (4, .class_ 257), (0, u "java/util/Collections$SynchronizedSet"), (4, .class_ 263), (0, u "java/util/Collections$SynchronizedSortedSet"), (1, .class_ 266), (0, u "java/util/Collections$SynchronizedNavigableSet"), (1, .class_ 269), (0, u "java/util/Collections$SynchronizedRandomAccessList"), (1, .class_ 272), (0, u "java/util/Collections$SynchronizedList"), (5, .class_ 279), (0, u "java/util/Collections$SynchronizedMap"), (1, .class_ 282), (0, u "java/util/Collections$SynchronizedSortedMap"), (1, .class_ 285), (0, u "java/util/Collections$SynchronizedNavigableMap"), (1, .class_ 288), (0, u "java/util/Collections$CheckedCollection"), (11, .class_ 301), (0, u "java/util/Collections$CheckedQueue"), (3, .class_ 306), (0, u "java/util/Collections$CheckedSet"), (3, .class_ 311), (0, u "java/util/Collections$CheckedSortedSet"), (3, .class_ 316), (0, u "java/util/Collections$CheckedNavigableSet"), (3, .class_ 321), (0, u "java/util/Collections$CheckedRandomAccessList"), (3, .class_ 326), (0, u "java/util/Collections$CheckedList"), (1, .class_ 329), (0, u "java/util/Collections$CheckedMap"), (3, .class_ 334), (0, u "java/util/Collections$CheckedSortedMap"), (3, .class_ 339), (0, u "java/util/Collections$CheckedNavigableMap"), (4, .class_ 346), (1, u "java/util/Collections$EmptyIterator"), (3, .class_ 352), (1, u "java/util/Collections$EmptyListIterator"), (2, .class_ 357), (1, u "java/util/Collections$EmptyEnumeration"), (4, u "EMPTY_SET"), (0, u "Ljava/util/Set;"), (6, u "EMPTY_LIST"), (0, u "Ljava/util/List;"), (2, u "EMPTY_MAP"), (0, u "Ljava/util/Map;"), (4, .class_ 381), (0, u "java/util/Collections$SingletonSet"), (2, .class_ 385), (0, u "java/util/Collections$1"), (1, .class_ 388), (0, u "java/util/Collections$2"), (1, .class_ 391), (0, u "java/util/Collections$SingletonList"), (1, .class_ 394), (0, u "java/util/Collections$SingletonMap"), (22, .class_ 418), (0, u "java/util/Collections$CopiesList"), (4, .class_ 425), (1, u "java/util/Collections$ReverseComparator"), (8, .class_ 435), (0, u "java/util/Collections$ReverseComparator2"), (6, .class_ 443), (0, u "java/util/Collections$3"), (25, .class_ 470), (0, u "java/util/Collections$SetFromMap"), (2, .class_ 474), (0, u "java/util/Collections$SequencedSetFromMap"), (3, .class_ 479), (0, u "java/util/Collections$AsLIFOQueue"), (11, .class_ 492), (0, u "java/util/Collections$EmptySet"), (1, .class_ 495), (0, u "java/util/Collections$EmptyList"), (1, .class_ 498), (0, u "java/util/Collections$EmptyMap"), (1, u "BINARYSEARCH_THRESHOLD"), (0, u "I"), (2, u "REVERSE_THRESHOLD"), (1, u "SHUFFLE_THRESHOLD"), (1, u "FILL_THRESHOLD"), (1, u "ROTATE_THRESHOLD"), (1, u "COPY_THRESHOLD"), (1, u "REPLACEALL_THRESHOLD"), (1, u "INDEXOFSUBLIST_THRESHOLD"), (333, .class_ 851), (0, u "java/util/Collections$CheckedMap$CheckedEntrySet"), (0, .class_ 853), (0, u "java/util/Collections$CheckedMap$CheckedEntrySet$CheckedEntry"), (0, .class_ 855), (0, u "java/util/Collections$CheckedMap$CheckedEntrySet$1"), (0, .class_ 857), (0, u "java/util/Collections$CheckedList$1"), (0, .class_ 859), (0, u "java/util/Collections$CheckedCollection$1"), (0, .class_ 861), (0, u "java/util/Collections$UnmodifiableNavigableMap$EmptyNavigableMap"), (0, .class_ 863), (0, u "java/util/Collections$UnmodifiableMap$UnmodifiableEntrySet"), (0, .class_ 865), (0, u "java/util/Collections$UnmodifiableMap$UnmodifiableEntrySet$UnmodifiableEntry"), (0, .class_ 867), (0, u "java/util/Collections$UnmodifiableMap$UnmodifiableEntrySet$UnmodifiableEntrySetSpliterator"), (0, .class_ 869), (0, u "java/util/Collections$UnmodifiableMap$UnmodifiableEntrySet$1"), (0, .class_ 871), (0, u "java/util/Collections$UnmodifiableList$1"), (0, .class_ 873), (0, u "java/util/Collections$UnmodifiableNavigableSet$EmptyNavigableSet"), (0, .class_ 875), (0, u "java/util/Collections$UnmodifiableCollection$1")] 57

def k22m0 : Method := { name := "<init>", desc := "()V", sig := { parameters := [], returnType := none }, accessFlags := 2, code := none }
/-- java/util/Collections -/
def k22 : Class := { plain "java/util/Collections" (some 0) with
  accessFlags := 33
  interfaces := #[]
  cf := some (fileOf pool22 19 #[.nestMembers #[478, 473, 469, 434, 423, 417, 393, 390, 380, 497, 494, 491, 355, 350, 344, 338, 333, 328, 850, 852, 854, 320, 325, 856, 315, 310, 305, 300, 287, 858, 284, 281, 278, 268, 271, 265, 262, 256, 250, 245, 860, 237, 231, 223, 862, 864, 866, 868, 215, 212, 870, 206, 872, 198, 190, 182, 174, 166, 874, 442, 387, 384]] #[{ accessFlags := 2, nameIndex := 5, descriptorIndex := 6, attributes := #[] }] 33 2 #[] #[{ accessFlags := 26, nameIndex := 500, descriptorIndex := 501, attributes := #[] }, { accessFlags := 26, nameIndex := 504, descriptorIndex := 501, attributes := #[] }, { accessFlags := 26, nameIndex := 506, descriptorIndex := 501, attributes := #[] }, { accessFlags := 26, nameIndex := 508, descriptorIndex := 501, attributes := #[] }, { accessFlags := 26, nameIndex := 510, descriptorIndex := 501, attributes := #[] }, { accessFlags := 26, nameIndex := 512, descriptorIndex := 501, attributes := #[] }, { accessFlags := 26, nameIndex := 514, descriptorIndex := 501, attributes := #[] }, { accessFlags := 26, nameIndex := 516, descriptorIndex := 501, attributes := #[] }, { accessFlags := 10, nameIndex := 84, descriptorIndex := 85, attributes := #[] }, { accessFlags := 25, nameIndex := 362, descriptorIndex := 363, attributes := #[] }, { accessFlags := 25, nameIndex := 370, descriptorIndex := 371, attributes := #[] }, { accessFlags := 25, nameIndex := 374, descriptorIndex := 375, attributes := #[] }])
  fields := #[{ name := "BINARYSEARCH_THRESHOLD", type := .int, accessFlags := 26, slot := 0, constantValue := 0 }, { name := "REVERSE_THRESHOLD", type := .int, accessFlags := 26, slot := 1, constantValue := 0 }, { name := "SHUFFLE_THRESHOLD", type := .int, accessFlags := 26, slot := 2, constantValue := 0 }, { name := "FILL_THRESHOLD", type := .int, accessFlags := 26, slot := 3, constantValue := 0 }, { name := "ROTATE_THRESHOLD", type := .int, accessFlags := 26, slot := 4, constantValue := 0 }, { name := "COPY_THRESHOLD", type := .int, accessFlags := 26, slot := 5, constantValue := 0 }, { name := "REPLACEALL_THRESHOLD", type := .int, accessFlags := 26, slot := 6, constantValue := 0 }, { name := "INDEXOFSUBLIST_THRESHOLD", type := .int, accessFlags := 26, slot := 7, constantValue := 0 }, { name := "r", type := (.object "java/util/Random"), accessFlags := 10, slot := 8, constantValue := 0 }, { name := "EMPTY_SET", type := (.object "java/util/Set"), accessFlags := 25, slot := 9, constantValue := 0 }, { name := "EMPTY_LIST", type := (.object "java/util/List"), accessFlags := 25, slot := 10, constantValue := 0 }, { name := "EMPTY_MAP", type := (.object "java/util/Map"), accessFlags := 25, slot := 11, constantValue := 0 }]
  methods := #[k22m0]
  instanceTypes := #[]
  staticTypes := #[.int, .int, .int, .int, .int, .int, .int, .int, (.object "java/util/Random"), (.object "java/util/Set"), (.object "java/util/List"), (.object "java/util/Map")]
  resolved := Array.replicate 933 none
  statics := some 3 }

def pool23 : Array CpInfo := pool [(8, .class_ 10), (1, u "java/lang/Iterable"), (24, .class_ 36), (0, u "java/lang/Object")] 25

/-- java/lang/Iterable -/
def k23 : Class := { plain "java/lang/Iterable" (some 0) with
  accessFlags := 1537
  interfaces := #[]
  cf := some (fileOf pool23 8 #[] #[] 1537 35 #[] #[])
  fields := #[]
  methods := #[]
  instanceTypes := #[]
  staticTypes := #[]
  resolved := Array.replicate 62 none
  statics := none }

def pool24 : Array CpInfo := pool [(10, .class_ 12), (1, u "java/util/Collection"), (47, .class_ 61), (0, u "java/lang/Object"), (0, .class_ 63), (0, u "java/lang/Iterable")] 51

/-- java/util/Collection -/
def k24 : Class := { plain "java/util/Collection" (some 0) with
  accessFlags := 1537
  interfaces := #[23]
  cf := some (fileOf pool24 10 #[] #[] 1537 60 #[62] #[])
  fields := #[]
  methods := #[]
  instanceTypes := #[]
  staticTypes := #[]
  resolved := Array.replicate 115 none
  statics := none }

def pool25 : Array CpInfo := pool [(2, .class_ 4), (1, u "java/lang/Object"), (0, u "<init>"), (0, u "()V"), (1, .class_ 10), (1, u "java/util/AbstractCollection"), (66, .class_ 78), (0, u "java/util/Collection")] 81

def k25m0 : Method := { name := "<init>", desc := "()V", sig := { parameters := [], returnType := none }, accessFlags := 4, code := none }
/-- java/util/AbstractCollection -/
def k25 : Class := { plain "java/util/AbstractCollection" (some 0) with
  accessFlags := 1057
  interfaces := #[24]
  cf := some (fileOf pool25 8 #[] #[{ accessFlags := 4, nameIndex := 5, descriptorIndex := 6, attributes := #[] }] 1057 2 #[77] #[])
  fields := #[]
  methods := #[k25m0]
  instanceTypes := #[]
  staticTypes := #[]
  resolved := Array.replicate 160 none
  statics := none }

def pool26 : Array CpInfo := pool [(8, .class_ 10), (1, u "java/util/SequencedCollection"), (15, .class_ 27), (0, u "java/lang/Object"), (0, .class_ 29), (0, u "java/util/Collection")] 27

/-- java/util/SequencedCollection -/
def k26 : Class := { plain "java/util/SequencedCollection" (some 0) with
  accessFlags := 1537
  interfaces := #[24]
  cf := some (fileOf pool26 8 #[] #[] 1537 26 #[28] #[])
  fields := #[]
  methods := #[]
  instanceTypes := #[]
  staticTypes := #[]
  resolved := Array.replicate 57 none
  statics := none }

def pool27 : Array CpInfo := pool [(8, .class_ 10), (1, u "java/util/List"), (92, .class_ 104), (0, u "java/lang/Object"), (15, .class_ 121), (0, u "java/util/SequencedCollection")] 129

/-- java/util/List -/
def k27 : Class := { plain "java/util/List" (some 0) with
  accessFlags := 1537
  interfaces := #[26]
  cf := some (fileOf pool27 8 #[] #[] 1537 103 #[120] #[])
  fields := #[]
  methods := #[]
  instanceTypes := #[]
  staticTypes := #[]
  resolved := Array.replicate 251 none
  statics := none }

def pool28 : Array CpInfo := pool [(2, .class_ 4), (1, u "java/util/AbstractCollection"), (0, u "<init>"), (0, u "()V"), (1, .class_ 10), (1, u "java/util/AbstractList"), (0, u "modCount"), (0, u "I"), (64, .class_ 78), (0, u "java/util/AbstractList$Itr"), (3, .class_ 83), (0, u "java/util/AbstractList$ListItr"), (9, .class_ 94), (0, u "java/util/AbstractList$RandomAccessSubList"), (3, .class_ 99), (0, u "java/util/AbstractList$SubList"), (33, .class_ 134), (0, u "java/util/List"), (73, .class_ 209), (0, u "java/util/AbstractList$SubList$1"), (0, .class_ 211), (0, u "java/util/AbstractList$RandomAccessSpliterator")] 6

def k28m0 : Method := { name := "<init>", desc := "()V", sig := { parameters := [], returnType := none }, accessFlags := 4, code := none }
/-- java/util/AbstractList -/
def k28 : Class := { plain "java/util/AbstractList" (some 25) with
  accessFlags := 1057
  interfaces := #[27]
  cf := some (fileOf pool28 8 #[.nestMembers #[93, 98, 208, 210, 82, 77]] #[{ accessFlags := 4, nameIndex := 5, descriptorIndex := 6, attributes := #[] }] 1057 2 #[133] #[{ accessFlags := 132, nameIndex := 11, descriptorIndex := 12, attributes := #[] }])
  fields := #[{ name := "modCount", type := .int, accessFlags := 132, slot := 0, constantValue := 0 }]
  methods := #[k28m0]
  instanceTypes := #[.int]
  staticTypes := #[]
  resolved := Array.replicate 218 none
  statics := none }

def pool29 : Array CpInfo := pool [(1, .class_ 2), (0, u "java/util/RandomAccess"), (0, .class_ 4), (0, u "java/lang/Object")] 2

/-- java/util/RandomAccess -/
def k29 : Class := { plain "java/util/RandomAccess" (some 0) with
  accessFlags := 1537
  interfaces := #[]
  cf := some (fileOf pool29 1 #[] #[] 1537 3 #[] #[])
  fields := #[]
  methods := #[]
  instanceTypes := #[]
  staticTypes := #[]
  resolved := Array.replicate 7 none
  statics := none }

def pool30 : Array CpInfo := pool [(2, .class_ 4), (1, u "java/util/AbstractList"), (0, u "<init>"), (0, u "()V"), (1, .class_ 10), (1, u "java/util/Collections"), (54, .class_ 66), (0, u "java/util/Collections$EmptyList"), (0, .class_ 68), (0, u "java/util/RandomAccess"), (0, .class_ 70), (0, u "java/io/Serializable"), (0, u "serialVersionUID"), (0, u "J")] 77

def k30m0 : Method := { name := "<init>", desc := "()V", sig := { parameters := [], returnType := none }, accessFlags := 2, code := none }
/-- java/util/Collections$EmptyList -/
def k30 : Class := { plain "java/util/Collections$EmptyList" (some 28) with
  accessFlags := 32
  interfaces := #[29, 2]
  cf := some (fileOf pool30 65 #[.nestHost 8] #[{ accessFlags := 2, nameIndex := 5, descriptorIndex := 6, attributes := #[] }] 32 2 #[67, 69] #[{ accessFlags := 26, nameIndex := 71, descriptorIndex := 72, attributes := #[] }])
  fields := #[{ name := "serialVersionUID", type := .long, accessFlags := 26, slot := 0, constantValue := 0 }]
  methods := #[k30m0]
  instanceTypes := #[.int]
  staticTypes := #[.long]
  resolved := Array.replicate 150 none
  statics := none }

def pool31 : Array CpInfo := pool [(2, .class_ 4), (1, u "java/lang/StackTraceElement"), (0, u "<init>"), (2, .class_ 10), (1, u "java/lang/Object"), (0, u "()V"), (2, u "format"), (0, u "B"), (2, u "classLoaderName"), (0, u "Ljava/lang/String;"), (2, u "moduleName"), (2, u "moduleVersion"), (12, u "declaringClass"), (4, u "methodName"), (2, u "fileName"), (2, u "lineNumber"), (0, u "I"), (65, u "declaringClassObject"), (0, u "Ljava/lang/Class;"), (33, .class_ 153), (1, u "java/lang/StackTraceElement$HashedModules"), (17, .class_ 172), (0, u "java/io/Serializable"), (0, u "NATIVE_METHOD"), (1, u "UNKNOWN_SOURCE"), (2, u "BUILTIN_CLASS_LOADER"), (1, u "JDK_NON_UPGRADEABLE_MODULE"), (1, u "serialVersionUID"), (0, u "J")] 51

def k31m0 : Method := { name := "<init>", desc := "()V", sig := { parameters := [], returnType := none }, accessFlags := 2, code := none }
/-- java/lang/StackTraceElement -/
def k31 : Class := { plain "java/lang/StackTraceElement" (some 0) with
  accessFlags := 49
  interfaces := #[2]
  cf := some (fileOf pool31 2 #[.nestMembers #[151]] #[{ accessFlags := 2, nameIndex := 5, descriptorIndex := 11, attributes := #[] }] 49 8 #[171] #[{ accessFlags := 26, nameIndex := 173, descriptorIndex := 19, attributes := #[] }, { accessFlags := 26, nameIndex := 175, descriptorIndex := 19, attributes := #[] }, { accessFlags := 130, nameIndex := 116, descriptorIndex := 117, attributes := #[] }, { accessFlags := 2, nameIndex := 18, descriptorIndex := 19, attributes := #[] }, { accessFlags := 2, nameIndex := 22, descriptorIndex := 19, attributes := #[] }, { accessFlags := 2, nameIndex := 25, descriptorIndex := 19, attributes := #[] }, { accessFlags := 2, nameIndex := 38, descriptorIndex := 19, attributes := #[] }, { accessFlags := 2, nameIndex := 43, descriptorIndex := 19, attributes := #[] }, { accessFlags := 2, nameIndex := 46, descriptorIndex := 19, attributes := #[] }, { accessFlags := 2, nameIndex := 49, descriptorIndex := 50, attributes := #[] }, { accessFlags := 2, nameIndex := 14, descriptorIndex := 15, attributes := #[] }, { accessFlags := 26, nameIndex := 178, descriptorIndex := 15, attributes := #[] }, { accessFlags := 26, nameIndex := 180, descriptorIndex := 15, attributes := #[] }, { accessFlags := 26, nameIndex := 182, descriptorIndex := 183, attributes := #[] }])
  fields := #[{ name := "NATIVE_METHOD", type := (.object "java/lang/String"), accessFlags := 26, slot := 0, constantValue := 0 }, { name := "UNKNOWN_SOURCE", type := (.object "java/lang/String"), accessFlags := 26, slot := 1, constantValue := 0 }, { name := "declaringClassObject", type := (.object "java/lang/Class"), accessFlags := 130, slot := 0, constantValue := 0 }, { name := "classLoaderName", type := (.object "java/lang/String"), accessFlags := 2, slot := 1, constantValue := 0 }, { name := "moduleName", type := (.object "java/lang/String"), accessFlags := 2, slot := 2, constantValue := 0 }, { name := "moduleVersion", type := (.object "java/lang/String"), accessFlags := 2, slot := 3, constantValue := 0 }, { name := "declaringClass", type := (.object "java/lang/String"), accessFlags := 2, slot := 4, constantValue := 0 }, { name := "methodName", type := (.object "java/lang/String"), accessFlags := 2, slot := 5, constantValue := 0 }, { name := "fileName", type := (.object "java/lang/String"), accessFlags := 2, slot := 6, constantValue := 0 }, { name := "lineNumber", type := .int, accessFlags := 2, slot := 7, constantValue := 0 }, { name := "format", type := .byte, accessFlags := 2, slot := 8, constantValue := 0 }, { name := "BUILTIN_CLASS_LOADER", type := .byte, accessFlags := 26, slot := 2, constantValue := 0 }, { name := "JDK_NON_UPGRADEABLE_MODULE", type := .byte, accessFlags := 26, slot := 3, constantValue := 0 }, { name := "serialVersionUID", type := .long, accessFlags := 26, slot := 4, constantValue := 0 }]
  methods := #[k31m0]
  instanceTypes := #[(.object "java/lang/Class"), (.object "java/lang/String"), (.object "java/lang/String"), (.object "java/lang/String"), (.object "java/lang/String"), (.object "java/lang/String"), (.object "java/lang/String"), .int, .byte]
  staticTypes := #[(.object "java/lang/String"), (.object "java/lang/String"), .byte, .byte, .long]
  resolved := Array.replicate 235 none
  statics := none }

/-- the primitive byte -/
def k32 : Class := { plain "byte" none with kind := .primitive 'B', accessFlags := 0x411 }
/-- [B -/
def k33 : Class := { plain "[B" (some 0) with kind := .array 32 .byte, interfaces := #[21, 2], accessFlags := 1041 }

/-- the primitive char -/
def k34 : Class := { plain "char" none with kind := .primitive 'C', accessFlags := 0x411 }
/-- [C -/
def k35 : Class := { plain "[C" (some 0) with kind := .array 34 .char, interfaces := #[21, 2], accessFlags := 1041 }

/-- the primitive int -/
def k36 : Class := { plain "int" none with kind := .primitive 'I', accessFlags := 0x411 }
/-- [I -/
def k37 : Class := { plain "[I" (some 0) with kind := .array 36 .int, interfaces := #[21, 2], accessFlags := 1041 }

/-- [Ljava/lang/Object; -/
def k38 : Class := { plain "[Ljava/lang/Object;" (some 0) with kind := .array 0 (.object "java/lang/Object"), interfaces := #[21, 2], accessFlags := 1041 }

/-- [Ljava/lang/StackTraceElement; -/
def k39 : Class := { plain "[Ljava/lang/StackTraceElement;" (some 0) with kind := .array 31 (.object "java/lang/StackTraceElement"), interfaces := #[21, 2], accessFlags := 1041 }

/-- [Ljava/lang/Throwable; -/
def k40 : Class := { plain "[Ljava/lang/Throwable;" (some 0) with kind := .array 8 (.object "java/lang/Throwable"), interfaces := #[21, 2], accessFlags := 1041 }

def heap : Heap := #[{ cls := 7, slots := #[.long 0, .int 1, .null, .int 0, .null, .int 0, .int 0], vm := .statics 7 },
  { cls := 8, slots := #[.long 0, .ref 4, .ref 5, .null, .null, .null, .null, .ref 6, .int 1], vm := .statics 8 },
  { cls := 18, slots := #[.null, .null, .null], vm := .statics 18 },
  { cls := 22, slots := #[.int 0, .int 0, .int 0, .int 0, .int 0, .int 0, .int 0, .int 0, .null, .null, .ref 5, .null], vm := .statics 22 },
  { cls := 39, slots := #[], vm := .none },
  { cls := 30, slots := #[.int 0], vm := .none },
  { cls := 40, slots := #[], vm := .none }]
def classes : Array Class := #[k0, k1, k2, k3, k4, k5, k6, k7, k8, k9, k10, k11, k12, k13, k14, k15, k16, k17, k18, k19, k20, k21, k22, k23, k24, k25, k26, k27, k28, k29, k30, k31, k32, k33, k34, k35, k36, k37, k38, k39, k40]
def interned : List (Array UInt16 × Addr) := []
def slotsUsed : Nat := 32
def theMethod : MethodId := ⟨1, 1⟩
def args0 : Array Value := #[.int 5, .int 5, .int 5, .int 5]
def aboutOver (below : List Frame) : State where
  vm := { classes := classes, interned := interned.toArray }
  heap := heap
  slotsUsed := slotsUsed
  threads := #[{ frames := .invoking theMethod args0 :: below }]
def below0 : List Frame := [.native { method := ⟨0, 0⟩, args := #[] }]
def about1 : State := aboutOver below0
def p0 : Program := .bare "" "" ""
def e0 : Env := launch0.env 0 0 0
theorem w_frames : about1.frames = Frame.invoking theMethod args0 :: below0 := rfl
set_option maxRecDepth 65536 in
theorem w_args : argsFit about1.vm theMethod args0 = true := by decide +kernel
set_option maxRecDepth 65536 in
theorem w_heap : heapFits about1 = true := by decide +kernel
set_option maxRecDepth 65536 in
theorem w_runnable : about1.curStatus? = some .runnable := by decide +kernel
set_option maxRecDepth 65536 in
theorem w_alone : about1.alone = true := by decide +kernel
set_option maxRecDepth 65536 in
theorem w_named : about1.methodNamed? x = some theMethod := by decide +kernel
set_option maxRecDepth 65536 in
theorem w_hears : about1.hears theMethod below0 = true := by decide +kernel
set_option maxRecDepth 65536 in
theorem w_ripe : about1.ripe theMethod args0 below0 = true := by decide +kernel
theorem w_running : about1.status = .running := rfl
set_option maxRecDepth 65536 in
theorem w_room : about1.hasRoom e0.platform room_1 = true :=
  launch0.hasRoom_least _ room_1 (by decide +kernel) (by decide +kernel) (by decide +kernel) (by decide +kernel) (by decide +kernel) (by decide +kernel)
theorem allAtoms_all (ts : List Jvm.Cond) (a : Array Jvm.Value) (st : Jvm.State) : (allAtoms ts).before a st = ts.all (fun c => c.before a st) := by
  induction ts with
  | nil => rfl
  | cons c t ih =>
    show (Jvm.Cond.and c (allAtoms t)).before a st = _
    rw [Jvm.Cond.before_and, ih, List.all_cons]
def words1 : List Jvm.Cond := Jvm.Cond.code x code maxLocals ret :: tables_1
/-- a 'code' word, met by the world's own term for the bytes: nothing is compared byte by byte -/
theorem code_word {y : MethodName} {bytes : ByteArray} {mx : Nat} {rt : Option FieldType} {a : Array Value} {s : State} {m : MethodId} {meth : Method} {c : Code} (h1 : s.methodNamed? y = some m) (h2 : s.vm.method? m = some meth) (h3 : meth.code = some c) (h4 : c.code = bytes)
    (h5 : (c.maxLocals == mx && c.exceptionTable.isEmpty && decide (c.maxStack ≤ mostOperands) && decide (meth.sig.returnType = rt) && !meth.locks && decide (parseMethodDescriptor y.desc = some meth.sig)) = true) : (Jvm.Cond.code y bytes mx rt).before a s = true := by
  simp only [Bool.and_eq_true, beq_iff_eq, Bool.not_eq_true', decide_eq_true_eq] at h5
  obtain ⟨⟨⟨⟨⟨g1, g2⟩, g3⟩, g4⟩, g5⟩, g6⟩ := h5
  simp [Cond.before, Cond.holds, Cond.value, h1, h2, h3, h4, g1, g2, g3, g4, g5, g6]
def isCode : Jvm.Cond → Bool
  | .code _ _ _ _ => true
  | _ => false
theorem all_split {L : List Jvm.Cond} {P : Jvm.Cond → Bool} (h1 : L.all (fun c => isCode c || P c) = true) (h2 : ∀ c ∈ L.filter isCode, P c = true) : L.all P = true := by
  refine List.all_eq_true.mpr fun c hc => ?_
  have h := List.all_eq_true.mp h1 c hc
  rcases Bool.eq_false_or_eq_true (isCode c) with hi | hi
  · exact h2 c (List.mem_filter.mpr ⟨hc, hi⟩)
  · simpa [hi] using h
set_option maxRecDepth 65536 in
theorem w_c0 : (Jvm.Cond.code x code maxLocals ret).before args0 about1 = true := code_word (m := ⟨1, 1⟩) (meth := k1m1) (c := k1c1) (by decide +kernel) rfl rfl rfl (by decide +kernel)
set_option maxRecDepth 65536 in
theorem w_c1 : (Jvm.Cond.code ({ cls := "java/lang/String", name := "<init>", desc := "([C)V" } : Jvm.MethodName) jdk_42_method_3_code (2 : Nat) (Option.none : Option Jvm.ClassFile.FieldType)).before args0 about1 = true := code_word (m := ⟨7, 1⟩) (meth := k7m1) (c := k7c1) (by decide +kernel) rfl rfl rfl (by decide +kernel)
set_option maxRecDepth 65536 in
theorem w_c2 : (Jvm.Cond.code ({ cls := "java/lang/String", name := "<init>", desc := "([CIILjava/lang/Void;)V" } : Jvm.MethodName) jdk_42_method_149_code (6 : Nat) (Option.none : Option Jvm.ClassFile.FieldType)).before args0 about1 = true := code_word (m := ⟨7, 7⟩) (meth := k7m7) (c := k7c7) (by decide +kernel) rfl rfl rfl (by decide +kernel)
set_option maxRecDepth 65536 in
theorem w_c3 : (Jvm.Cond.code ({ cls := "java/lang/Object", name := "<init>", desc := "()V" } : Jvm.MethodName) object_method_1_code (1 : Nat) (Option.none : Option Jvm.ClassFile.FieldType)).before args0 about1 = true := code_word (m := ⟨0, 0⟩) (meth := k0m0) (c := k0c0) (by decide +kernel) rfl rfl rfl (by decide +kernel)
set_option maxRecDepth 65536 in
theorem w_c4 : (Jvm.Cond.code ({ cls := "com/example/rungway/rungway/framework/InstallException", name := "invalidHeader", desc := "(Ljava/lang/String;)Lcom/example/rungway/rungway/framework/InstallException;" } : Jvm.MethodName) prog_8_method_2_code (1 : Nat) (Option.some (Jvm.ClassFile.FieldType.object "com/example/rungway/rungway/framework/InstallException"))).before args0 about1 = true := code_word (m := ⟨10, 1⟩) (meth := k10m1) (c := k10c1) (by decide +kernel) rfl rfl rfl (by decide +kernel)
set_option maxRecDepth 65536 in
theorem w_c5 : (Jvm.Cond.code ({ cls := "java/lang/StringBuilder", name := "<init>", desc := "()V" } : Jvm.MethodName) jdk_67_method_1_code (1 : Nat) (Option.none : Option Jvm.ClassFile.FieldType)).before args0 about1 = true := code_word (m := ⟨13, 0⟩) (meth := k13m0) (c := k13c0) (by decide +kernel) rfl rfl rfl (by decide +kernel)
set_option maxRecDepth 65536 in
theorem w_c6 : (Jvm.Cond.code ({ cls := "java/lang/AbstractStringBuilder", name := "<init>", desc := "(I)V" } : Jvm.MethodName) jdk_68_method_2_code (2 : Nat) (Option.none : Option Jvm.ClassFile.FieldType)).before args0 about1 = true := code_word (m := ⟨12, 1⟩) (meth := k12m1) (c := k12c1) (by decide +kernel) rfl rfl rfl (by decide +kernel)
set_option maxRecDepth 65536 in
theorem w_c7 : (Jvm.Cond.code ({ cls := "java/lang/StringBuilder", name := "append", desc := "(Ljava/lang/String;)Ljava/lang/StringBuilder;" } : Jvm.MethodName) jdk_67_method_7_code (2 : Nat) (Option.some (Jvm.ClassFile.FieldType.object "java/lang/StringBuilder"))).before args0 about1 = true := code_word (m := ⟨13, 1⟩) (meth := k13m1) (c := k13c1) (by decide +kernel) rfl rfl rfl (by decide +kernel)
set_option maxRecDepth 65536 in
theorem w_c8 : (Jvm.Cond.code ({ cls := "java/lang/AbstractStringBuilder", name := "append", desc := "(Ljava/lang/String;)Ljava/lang/AbstractStringBuilder;" } : Jvm.MethodName) jdk_68_method_22_code (3 : Nat) (Option.some (Jvm.ClassFile.FieldType.object "java/lang/AbstractStringBuilder"))).before args0 about1 = true := code_word (m := ⟨12, 5⟩) (meth := k12m5) (c := k12c5) (by decide +kernel) rfl rfl rfl (by decide +kernel)
set_option maxRecDepth 65536 in
theorem w_c9 : (Jvm.Cond.code ({ cls := "java/lang/String", name := "length", desc := "()I" } : Jvm.MethodName) jdk_42_method_54_code (1 : Nat) (Option.some Jvm.ClassFile.FieldType.int)).before args0 about1 = true := code_word (m := ⟨7, 3⟩) (meth := k7m3) (c := k7c3) (by decide +kernel) rfl rfl rfl (by decide +kernel)
set_option maxRecDepth 65536 in
theorem w_c10 : (Jvm.Cond.code ({ cls := "java/lang/String", name := "coder", desc := "()B" } : Jvm.MethodName) jdk_42_method_152_code (1 : Nat) (Option.some Jvm.ClassFile.FieldType.byte)).before args0 about1 = true := code_word (m := ⟨7, 10⟩) (meth := k7m10) (c := k7c10) (by decide +kernel) rfl rfl rfl (by decide +kernel)
set_option maxRecDepth 65536 in
theorem w_c11 : (Jvm.Cond.code ({ cls := "java/lang/AbstractStringBuilder", name := "ensureCapacityInternal", desc := "(I)V" } : Jvm.MethodName) jdk_68_method_9_code (3 : Nat) (Option.none : Option Jvm.ClassFile.FieldType)).before args0 about1 = true := code_word (m := ⟨12, 3⟩) (meth := k12m3) (c := k12c3) (by decide +kernel) rfl rfl rfl (by decide +kernel)
set_option maxRecDepth 65536 in
theorem w_c12 : (Jvm.Cond.code ({ cls := "java/lang/AbstractStringBuilder", name := "putStringAt", desc := "(ILjava/lang/String;)V" } : Jvm.MethodName) jdk_68_method_73_code (3 : Nat) (Option.none : Option Jvm.ClassFile.FieldType)).before args0 about1 = true := code_word (m := ⟨12, 9⟩) (meth := k12m9) (c := k12c9) (by decide +kernel) rfl rfl rfl (by decide +kernel)
set_option maxRecDepth 65536 in
theorem w_c13 : (Jvm.Cond.code ({ cls := "java/lang/AbstractStringBuilder", name := "inflateIfNeededFor", desc := "(Ljava/lang/String;)V" } : Jvm.MethodName) jdk_68_method_71_code (2 : Nat) (Option.none : Option Jvm.ClassFile.FieldType)).before args0 about1 = true := code_word (m := ⟨12, 8⟩) (meth := k12m8) (c := k12c8) (by decide +kernel) rfl rfl rfl (by decide +kernel)
set_option maxRecDepth 65536 in
theorem w_c14 : (Jvm.Cond.code ({ cls := "java/lang/String", name := "getBytes", desc := "([BIB)V" } : Jvm.MethodName) jdk_42_method_147_code (4 : Nat) (Option.none : Option Jvm.ClassFile.FieldType)).before args0 about1 = true := code_word (m := ⟨7, 6⟩) (meth := k7m6) (c := k7c6) (by decide +kernel) rfl rfl rfl (by decide +kernel)
set_option maxRecDepth 65536 in
theorem w_c15 : (Jvm.Cond.code ({ cls := "java/lang/StringBuilder", name := "toString", desc := "()Ljava/lang/String;" } : Jvm.MethodName) jdk_67_method_42_code (1 : Nat) (Option.some (Jvm.ClassFile.FieldType.object "java/lang/String"))).before args0 about1 = true := code_word (m := ⟨13, 2⟩) (meth := k13m2) (c := k13c2) (by decide +kernel) rfl rfl rfl (by decide +kernel)
set_option maxRecDepth 65536 in
theorem w_c16 : (Jvm.Cond.code ({ cls := "java/lang/String", name := "<init>", desc := "(Ljava/lang/StringBuilder;)V" } : Jvm.MethodName) jdk_42_method_53_code (2 : Nat) (Option.none : Option Jvm.ClassFile.FieldType)).before args0 about1 = true := code_word (m := ⟨7, 2⟩) (meth := k7m2) (c := k7c2) (by decide +kernel) rfl rfl rfl (by decide +kernel)
set_option maxRecDepth 65536 in
theorem w_c17 : (Jvm.Cond.code ({ cls := "java/lang/String", name := "<init>", desc := "(Ljava/lang/AbstractStringBuilder;Ljava/lang/Void;)V" } : Jvm.MethodName) jdk_42_method_150_code (5 : Nat) (Option.none : Option Jvm.ClassFile.FieldType)).before args0 about1 = true := code_word (m := ⟨7, 8⟩) (meth := k7m8) (c := k7c8) (by decide +kernel) rfl rfl rfl (by decide +kernel)
set_option maxRecDepth 65536 in
theorem w_c18 : (Jvm.Cond.code ({ cls := "java/lang/AbstractStringBuilder", name := "getValue", desc := "()[B" } : Jvm.MethodName) jdk_68_method_64_code (1 : Nat) (Option.some (Jvm.ClassFile.FieldType.array Jvm.ClassFile.FieldType.byte))).before args0 about1 = true := code_word (m := ⟨12, 6⟩) (meth := k12m6) (c := k12c6) (by decide +kernel) rfl rfl rfl (by decide +kernel)
set_option maxRecDepth 65536 in
theorem w_c19 : (Jvm.Cond.code ({ cls := "java/lang/StringBuilder", name := "length", desc := "()I" } : Jvm.MethodName) jdk_67_method_93_code (1 : Nat) (Option.some Jvm.ClassFile.FieldType.int)).before args0 about1 = true := code_word (m := ⟨13, 3⟩) (meth := k13m3) (c := k13c3) (by decide +kernel) rfl rfl rfl (by decide +kernel)
set_option maxRecDepth 65536 in
theorem w_c20 : (Jvm.Cond.code ({ cls := "java/lang/AbstractStringBuilder", name := "length", desc := "()I" } : Jvm.MethodName) jdk_68_method_6_code (1 : Nat) (Option.some Jvm.ClassFile.FieldType.int)).before args0 about1 = true := code_word (m := ⟨12, 2⟩) (meth := k12m2) (c := k12c2) (by decide +kernel) rfl rfl rfl (by decide +kernel)
set_option maxRecDepth 65536 in
theorem w_c21 : (Jvm.Cond.code ({ cls := "java/lang/AbstractStringBuilder", name := "isLatin1", desc := "()Z" } : Jvm.MethodName) jdk_68_method_68_code (1 : Nat) (Option.some Jvm.ClassFile.FieldType.boolean)).before args0 about1 = true := code_word (m := ⟨12, 7⟩) (meth := k12m7) (c := k12c7) (by decide +kernel) rfl rfl rfl (by decide +kernel)
set_option maxRecDepth 65536 in
theorem w_c22 : (Jvm.Cond.code ({ cls := "java/util/Arrays", name := "copyOfRange", desc := "([BII)[B" } : Jvm.MethodName) jdk_65_method_132_code (3 : Nat) (Option.some (Jvm.ClassFile.FieldType.array Jvm.ClassFile.FieldType.byte))).before args0 about1 = true := code_word (m := ⟨15, 3⟩) (meth := k15m3) (c := k15c3) (by decide +kernel) rfl rfl rfl (by decide +kernel)
set_option maxRecDepth 65536 in
theorem w_c23 : (Jvm.Cond.code ({ cls := "java/util/Arrays", name := "copyOfRangeByte", desc := "([BII)[B" } : Jvm.MethodName) jdk_65_method_133_code (5 : Nat) (Option.some (Jvm.ClassFile.FieldType.array Jvm.ClassFile.FieldType.byte))).before args0 about1 = true := code_word (m := ⟨15, 4⟩) (meth := k15m4) (c := k15c4) (by decide +kernel) rfl rfl rfl (by decide +kernel)
set_option maxRecDepth 65536 in
theorem w_c24 : (Jvm.Cond.code ({ cls := "java/util/Arrays", name := "checkLength", desc := "(II)V" } : Jvm.MethodName) jdk_65_method_131_code (2 : Nat) (Option.none : Option Jvm.ClassFile.FieldType)).before args0 about1 = true := code_word (m := ⟨15, 2⟩) (meth := k15m2) (c := k15c2) (by decide +kernel) rfl rfl rfl (by decide +kernel)
set_option maxRecDepth 65536 in
theorem w_c25 : (Jvm.Cond.code ({ cls := "java/lang/Math", name := "min", desc := "(II)I" } : Jvm.MethodName) jdk_29_method_69_code (2 : Nat) (Option.some Jvm.ClassFile.FieldType.int)).before args0 about1 = true := code_word (m := ⟨16, 2⟩) (meth := k16m2) (c := k16c2) (by decide +kernel) rfl rfl rfl (by decide +kernel)
set_option maxRecDepth 65536 in
theorem w_c26 : (Jvm.Cond.code ({ cls := "com/example/rungway/rungway/framework/InstallException", name := "<init>", desc := "(Ljava/lang/String;)V" } : Jvm.MethodName) prog_8_method_1_code (2 : Nat) (Option.none : Option Jvm.ClassFile.FieldType)).before args0 about1 = true := code_word (m := ⟨10, 0⟩) (meth := k10m0) (c := k10c0) (by decide +kernel) rfl rfl rfl (by decide +kernel)
set_option maxRecDepth 65536 in
theorem w_c27 : (Jvm.Cond.code ({ cls := "java/lang/Exception", name := "<init>", desc := "(Ljava/lang/String;)V" } : Jvm.MethodName) jdk_59_method_2_code (2 : Nat) (Option.none : Option Jvm.ClassFile.FieldType)).before args0 about1 = true := code_word (m := ⟨9, 1⟩) (meth := k9m1) (c := k9c1) (by decide +kernel) rfl rfl rfl (by decide +kernel)
set_option maxRecDepth 65536 in
theorem w_c28 : (Jvm.Cond.code ({ cls := "java/lang/Throwable", name := "<init>", desc := "(Ljava/lang/String;)V" } : Jvm.MethodName) jdk_78_method_2_code (2 : Nat) (Option.none : Option Jvm.ClassFile.FieldType)).before args0 about1 = true := code_word (m := ⟨8, 1⟩) (meth := k8m1) (c := k8c1) (by decide +kernel) rfl rfl rfl (by decide +kernel)
set_option maxRecDepth 65536 in
theorem w_c29 : (Jvm.Cond.code ({ cls := "java/lang/Throwable", name := "<init>", desc := "()V" } : Jvm.MethodName) jdk_78_method_1_code (1 : Nat) (Option.none : Option Jvm.ClassFile.FieldType)).before args0 about1 = true := code_word (m := ⟨8, 0⟩) (meth := k8m0) (c := k8c0) (by decide +kernel) rfl rfl rfl (by decide +kernel)
set_option maxRecDepth 65536 in
theorem w_c30 : (Jvm.Cond.code ({ cls := "java/lang/Throwable", name := "getMessage", desc := "()Ljava/lang/String;" } : Jvm.MethodName) jdk_78_method_6_code (1 : Nat) (Option.some (Jvm.ClassFile.FieldType.object "java/lang/String"))).before args0 about1 = true := code_word (m := ⟨8, 2⟩) (meth := k8m2) (c := k8c2) (by decide +kernel) rfl rfl rfl (by decide +kernel)
set_option maxRecDepth 65536 in
theorem w_c31 : (Jvm.Cond.code ({ cls := "com/example/rungway/rungway/framework/InstallExceptionInvalidHeaderPinLaw", name := "prefixOk", desc := "(Ljava/lang/String;)Z" } : Jvm.MethodName) method_3_code (1 : Nat) (Option.some Jvm.ClassFile.FieldType.boolean)).before args0 about1 = true := code_word (m := ⟨1, 2⟩) (meth := k1m2) (c := k1c2) (by decide +kernel) rfl rfl rfl (by decide +kernel)
set_option maxRecDepth 65536 in
theorem w_c32 : (Jvm.Cond.code ({ cls := "java/lang/String", name := "charAt", desc := "(I)C" } : Jvm.MethodName) jdk_42_method_56_code (2 : Nat) (Option.some Jvm.ClassFile.FieldType.char)).before args0 about1 = true := code_word (m := ⟨7, 4⟩) (meth := k7m4) (c := k7c4) (by decide +kernel) rfl rfl rfl (by decide +kernel)
set_option maxRecDepth 65536 in
theorem w_c33 : (Jvm.Cond.code ({ cls := "java/lang/String", name := "isLatin1", desc := "()Z" } : Jvm.MethodName) jdk_42_method_154_code (1 : Nat) (Option.some Jvm.ClassFile.FieldType.boolean)).before args0 about1 = true := code_word (m := ⟨7, 11⟩) (meth := k7m11) (c := k7c11) (by decide +kernel) rfl rfl rfl (by decide +kernel)
set_option maxRecDepth 65536 in
theorem w_c34 : (Jvm.Cond.code ({ cls := "java/lang/StringLatin1", name := "charAt", desc := "([BI)C" } : Jvm.MethodName) jdk_43_method_2_code (2 : Nat) (Option.some Jvm.ClassFile.FieldType.char)).before args0 about1 = true := code_word (m := ⟨17, 1⟩) (meth := k17m1) (c := k17c1) (by decide +kernel) rfl rfl rfl (by decide +kernel)
set_option maxRecDepth 65536 in
theorem w_c35 : (Jvm.Cond.code ({ cls := "java/lang/String", name := "checkIndex", desc := "(II)V" } : Jvm.MethodName) jdk_42_method_155_code (2 : Nat) (Option.none : Option Jvm.ClassFile.FieldType)).before args0 about1 = true := code_word (m := ⟨7, 12⟩) (meth := k7m12) (c := k7c12) (by decide +kernel) rfl rfl rfl (by decide +kernel)
set_option maxRecDepth 65536 in
theorem w_c36 : (Jvm.Cond.code ({ cls := "jdk/internal/util/Preconditions", name := "checkIndex", desc := "(IILjava/util/function/BiFunction;)I" } : Jvm.MethodName) jdk_41_method_11_code (3 : Nat) (Option.some Jvm.ClassFile.FieldType.int)).before args0 about1 = true := code_word (m := ⟨18, 1⟩) (meth := k18m1) (c := k18c1) (by decide +kernel) rfl rfl rfl (by decide +kernel)
set_option maxRecDepth 65536 in
theorem w_c37 : (Jvm.Cond.code ({ cls := "java/lang/StringUTF16", name := "compress", desc := "([CII)[B" } : Jvm.MethodName) jdk_52_method_16_code (6 : Nat) (Option.some (Jvm.ClassFile.FieldType.array Jvm.ClassFile.FieldType.byte))).before args0 about1 = true := code_word (m := ⟨19, 2⟩) (meth := k19m2) (c := k19c2) (by decide +kernel) rfl rfl rfl (by decide +kernel)
set_option maxRecDepth 65536 in
theorem w_c38 : (Jvm.Cond.code ({ cls := "java/lang/StringUTF16", name := "compress", desc := "([CI[BII)I" } : Jvm.MethodName) jdk_52_method_21_code (7 : Nat) (Option.some Jvm.ClassFile.FieldType.int)).before args0 about1 = true := code_word (m := ⟨19, 3⟩) (meth := k19m3) (c := k19c3) (by decide +kernel) rfl rfl rfl (by decide +kernel)
set_option maxRecDepth 65536 in
theorem w_c39 : (Jvm.Cond.code ({ cls := "java/lang/StringUTF16", name := "coderFromArrayLen", desc := "([BI)B" } : Jvm.MethodName) jdk_52_method_15_code (2 : Nat) (Option.some Jvm.ClassFile.FieldType.byte)).before args0 about1 = true := code_word (m := ⟨19, 1⟩) (meth := k19m1) (c := k19c1) (by decide +kernel) rfl rfl rfl (by decide +kernel)
set_option maxRecDepth 65536 in
theorem w_c40 : (Jvm.Cond.code ({ cls := "java/lang/AbstractStringBuilder", name := "newCapacity", desc := "(I)I" } : Jvm.MethodName) jdk_68_method_10_code (6 : Nat) (Option.some Jvm.ClassFile.FieldType.int)).before args0 about1 = true := code_word (m := ⟨12, 4⟩) (meth := k12m4) (c := k12c4) (by decide +kernel) rfl rfl rfl (by decide +kernel)
set_option maxRecDepth 65536 in
theorem w_c41 : (Jvm.Cond.code ({ cls := "jdk/internal/util/ArraysSupport", name := "newLength", desc := "(III)I" } : Jvm.MethodName) jdk_48_method_27_code (4 : Nat) (Option.some Jvm.ClassFile.FieldType.int)).before args0 about1 = true := code_word (m := ⟨20, 1⟩) (meth := k20m1) (c := k20c1) (by decide +kernel) rfl rfl rfl (by decide +kernel)
set_option maxRecDepth 65536 in
theorem w_c42 : (Jvm.Cond.code ({ cls := "java/lang/Math", name := "max", desc := "(II)I" } : Jvm.MethodName) jdk_29_method_65_code (2 : Nat) (Option.some Jvm.ClassFile.FieldType.int)).before args0 about1 = true := code_word (m := ⟨16, 1⟩) (meth := k16m1) (c := k16c1) (by decide +kernel) rfl rfl rfl (by decide +kernel)
set_option maxRecDepth 65536 in
theorem w_c43 : (Jvm.Cond.code ({ cls := "java/util/Arrays", name := "copyOf", desc := "([BI)[B" } : Jvm.MethodName) jdk_65_method_121_code (3 : Nat) (Option.some (Jvm.ClassFile.FieldType.array Jvm.ClassFile.FieldType.byte))).before args0 about1 = true := code_word (m := ⟨15, 1⟩) (meth := k15m1) (c := k15c1) (by decide +kernel) rfl rfl rfl (by decide +kernel)
set_option maxRecDepth 65536 in
theorem w_c44 : (Jvm.Cond.code ({ cls := "java/lang/String", name := "valueOf", desc := "(C)Ljava/lang/String;" } : Jvm.MethodName) jdk_42_method_139_code (1 : Nat) (Option.some (Jvm.ClassFile.FieldType.object "java/lang/String"))).before args0 about1 = true := code_word (m := ⟨7, 5⟩) (meth := k7m5) (c := k7c5) (by decide +kernel) rfl rfl rfl (by decide +kernel)
set_option maxRecDepth 65536 in
theorem w_c45 : (Jvm.Cond.code ({ cls := "java/lang/StringLatin1", name := "canEncode", desc := "(C)Z" } : Jvm.MethodName) jdk_43_method_3_code (1 : Nat) (Option.some Jvm.ClassFile.FieldType.boolean)).before args0 about1 = true := code_word (m := ⟨17, 2⟩) (meth := k17m2) (c := k17c2) (by decide +kernel) rfl rfl rfl (by decide +kernel)
set_option maxRecDepth 65536 in
theorem w_c46 : (Jvm.Cond.code ({ cls := "java/lang/StringLatin1", name := "toBytes", desc := "(C)[B" } : Jvm.MethodName) jdk_43_method_46_code (1 : Nat) (Option.some (Jvm.ClassFile.FieldType.array Jvm.ClassFile.FieldType.byte))).before args0 about1 = true := code_word (m := ⟨17, 3⟩) (meth := k17m3) (c := k17c3) (by decide +kernel) rfl rfl rfl (by decide +kernel)
set_option maxRecDepth 65536 in
theorem w_c47 : (Jvm.Cond.code ({ cls := "java/lang/String", name := "<init>", desc := "([BB)V" } : Jvm.MethodName) jdk_42_method_151_code (3 : Nat) (Option.none : Option Jvm.ClassFile.FieldType)).before args0 about1 = true := code_word (m := ⟨7, 9⟩) (meth := k7m9) (c := k7c9) (by decide +kernel) rfl rfl rfl (by decide +kernel)
def codes1 : List Jvm.Cond := [Jvm.Cond.code x code maxLocals ret, Jvm.Cond.code ({ cls := "java/lang/String", name := "<init>", desc := "([C)V" } : Jvm.MethodName) jdk_42_method_3_code (2 : Nat) (Option.none : Option Jvm.ClassFile.FieldType), Jvm.Cond.code ({ cls := "java/lang/String", name := "<init>", desc := "([CIILjava/lang/Void;)V" } : Jvm.MethodName) jdk_42_method_149_code (6 : Nat) (Option.none : Option Jvm.ClassFile.FieldType), Jvm.Cond.code ({ cls := "java/lang/Object", name := "<init>", desc := "()V" } : Jvm.MethodName) object_method_1_code (1 : Nat) (Option.none : Option Jvm.ClassFile.FieldType), Jvm.Cond.code ({ cls := "com/example/rungway/rungway/framework/InstallException", name := "invalidHeader", desc := "(Ljava/lang/String;)Lcom/example/rungway/rungway/framework/InstallException;" } : Jvm.MethodName) prog_8_method_2_code (1 : Nat) (Option.some (Jvm.ClassFile.FieldType.object "com/example/rungway/rungway/framework/InstallException")), Jvm.Cond.code ({ cls := "java/lang/StringBuilder", name := "<init>", desc := "()V" } : Jvm.MethodName) jdk_67_method_1_code (1 : Nat) (Option.none : Option Jvm.ClassFile.FieldType), Jvm.Cond.code ({ cls := "java/lang/AbstractStringBuilder", name := "<init>", desc := "(I)V" } : Jvm.MethodName) jdk_68_method_2_code (2 : Nat) (Option.none : Option Jvm.ClassFile.FieldType), Jvm.Cond.code ({ cls := "java/lang/StringBuilder", name := "append", desc := "(Ljava/lang/String;)Ljava/lang/StringBuilder;" } : Jvm.MethodName) jdk_67_method_7_code (2 : Nat) (Option.some (Jvm.ClassFile.FieldType.object "java/lang/StringBuilder")), Jvm.Cond.code ({ cls := "java/lang/AbstractStringBuilder", name := "append", desc := "(Ljava/lang/String;)Ljava/lang/AbstractStringBuilder;" } : Jvm.MethodName) jdk_68_method_22_code (3 : Nat) (Option.some (Jvm.ClassFile.FieldType.object "java/lang/AbstractStringBuilder")), Jvm.Cond.code ({ cls := "java/lang/String", name := "length", desc := "()I" } : Jvm.MethodName) jdk_42_method_54_code (1 : Nat) (Option.some Jvm.ClassFile.FieldType.int), Jvm.Cond.code ({ cls := "java/lang/String", name := "coder", desc := "()B" } : Jvm.MethodName) jdk_42_method_152_code (1 : Nat) (Option.some Jvm.ClassFile.FieldType.byte), Jvm.Cond.code ({ cls := "java/lang/AbstractStringBuilder", name := "ensureCapacityInternal", desc := "(I)V" } : Jvm.MethodName) jdk_68_method_9_code (3 : Nat) (Option.none : Option Jvm.ClassFile.FieldType), Jvm.Cond.code ({ cls := "java/lang/AbstractStringBuilder", name := "putStringAt", desc := "(ILjava/lang/String;)V" } : Jvm.MethodName) jdk_68_method_73_code (3 : Nat) (Option.none : Option Jvm.ClassFile.FieldType), Jvm.Cond.code ({ cls := "java/lang/AbstractStringBuilder", name := "inflateIfNeededFor", desc := "(Ljava/lang/String;)V" } : Jvm.MethodName) jdk_68_method_71_code (2 : Nat) (Option.none : Option Jvm.ClassFile.FieldType), Jvm.Cond.code ({ cls := "java/lang/String", name := "getBytes", desc := "([BIB)V" } : Jvm.MethodName) jdk_42_method_147_code (4 : Nat) (Option.none : Option Jvm.ClassFile.FieldType), Jvm.Cond.code ({ cls := "java/lang/StringBuilder", name := "toString", desc := "()Ljava/lang/String;" } : Jvm.MethodName) jdk_67_method_42_code (1 : Nat) (Option.some (Jvm.ClassFile.FieldType.object "java/lang/String")), Jvm.Cond.code ({ cls := "java/lang/String", name := "<init>", desc := "(Ljava/lang/StringBuilder;)V" } : Jvm.MethodName) jdk_42_method_53_code (2 : Nat) (Option.none : Option Jvm.ClassFile.FieldType), Jvm.Cond.code ({ cls := "java/lang/String", name := "<init>", desc := "(Ljava/lang/AbstractStringBuilder;Ljava/lang/Void;)V" } : Jvm.MethodName) jdk_42_method_150_code (5 : Nat) (Option.none : Option Jvm.ClassFile.FieldType), Jvm.Cond.code ({ cls := "java/lang/AbstractStringBuilder", name := "getValue", desc := "()[B" } : Jvm.MethodName) jdk_68_method_64_code (1 : Nat) (Option.some (Jvm.ClassFile.FieldType.array Jvm.ClassFile.FieldType.byte)), Jvm.Cond.code ({ cls := "java/lang/StringBuilder", name := "length", desc := "()I" } : Jvm.MethodName) jdk_67_method_93_code (1 : Nat) (Option.some Jvm.ClassFile.FieldType.int), Jvm.Cond.code ({ cls := "java/lang/AbstractStringBuilder", name := "length", desc := "()I" } : Jvm.MethodName) jdk_68_method_6_code (1 : Nat) (Option.some Jvm.ClassFile.FieldType.int), Jvm.Cond.code ({ cls := "java/lang/AbstractStringBuilder", name := "isLatin1", desc := "()Z" } : Jvm.MethodName) jdk_68_method_68_code (1 : Nat) (Option.some Jvm.ClassFile.FieldType.boolean), Jvm.Cond.code ({ cls := "java/util/Arrays", name := "copyOfRange", desc := "([BII)[B" } : Jvm.MethodName) jdk_65_method_132_code (3 : Nat) (Option.some (Jvm.ClassFile.FieldType.array Jvm.ClassFile.FieldType.byte)), Jvm.Cond.code ({ cls := "java/util/Arrays", name := "copyOfRangeByte", desc := "([BII)[B" } : Jvm.MethodName) jdk_65_method_133_code (5 : Nat) (Option.some (Jvm.ClassFile.FieldType.array Jvm.ClassFile.FieldType.byte)), Jvm.Cond.code ({ cls := "java/util/Arrays", name := "checkLength", desc := "(II)V" } : Jvm.MethodName) jdk_65_method_131_code (2 : Nat) (Option.none : Option Jvm.ClassFile.FieldType), Jvm.Cond.code ({ cls := "java/lang/Math", name := "min", desc := "(II)I" } : Jvm.MethodName) jdk_29_method_69_code (2 : Nat) (Option.some Jvm.ClassFile.FieldType.int), Jvm.Cond.code ({ cls := "com/example/rungway/rungway/framework/InstallException", name := "<init>", desc := "(Ljava/lang/String;)V" } : Jvm.MethodName) prog_8_method_1_code (2 : Nat) (Option.none : Option Jvm.ClassFile.FieldType), Jvm.Cond.code ({ cls := "java/lang/Exception", name := "<init>", desc := "(Ljava/lang/String;)V" } : Jvm.MethodName) jdk_59_method_2_code (2 : Nat) (Option.none : Option Jvm.ClassFile.FieldType), Jvm.Cond.code ({ cls := "java/lang/Throwable", name := "<init>", desc := "(Ljava/lang/String;)V" } : Jvm.MethodName) jdk_78_method_2_code (2 : Nat) (Option.none : Option Jvm.ClassFile.FieldType), Jvm.Cond.code ({ cls := "java/lang/Throwable", name := "<init>", desc := "()V" } : Jvm.MethodName) jdk_78_method_1_code (1 : Nat) (Option.none : Option Jvm.ClassFile.FieldType), Jvm.Cond.code ({ cls := "java/lang/Throwable", name := "getMessage", desc := "()Ljava/lang/String;" } : Jvm.MethodName) jdk_78_method_6_code (1 : Nat) (Option.some (Jvm.ClassFile.FieldType.object "java/lang/String")), Jvm.Cond.code ({ cls := "com/example/rungway/rungway/framework/InstallExceptionInvalidHeaderPinLaw", name := "prefixOk", desc := "(Ljava/lang/String;)Z" } : Jvm.MethodName) method_3_code (1 : Nat) (Option.some Jvm.ClassFile.FieldType.boolean), Jvm.Cond.code ({ cls := "java/lang/String", name := "charAt", desc := "(I)C" } : Jvm.MethodName) jdk_42_method_56_code (2 : Nat) (Option.some Jvm.ClassFile.FieldType.char), Jvm.Cond.code ({ cls := "java/lang/String", name := "isLatin1", desc := "()Z" } : Jvm.MethodName) jdk_42_method_154_code (1 : Nat) (Option.some Jvm.ClassFile.FieldType.boolean), Jvm.Cond.code ({ cls := "java/lang/StringLatin1", name := "charAt", desc := "([BI)C" } : Jvm.MethodName) jdk_43_method_2_code (2 : Nat) (Option.some Jvm.ClassFile.FieldType.char), Jvm.Cond.code ({ cls := "java/lang/String", name := "checkIndex", desc := "(II)V" } : Jvm.MethodName) jdk_42_method_155_code (2 : Nat) (Option.none : Option Jvm.ClassFile.FieldType), Jvm.Cond.code ({ cls := "jdk/internal/util/Preconditions", name := "checkIndex", desc := "(IILjava/util/function/BiFunction;)I" } : Jvm.MethodName) jdk_41_method_11_code (3 : Nat) (Option.some Jvm.ClassFile.FieldType.int), Jvm.Cond.code ({ cls := "java/lang/StringUTF16", name := "compress", desc := "([CII)[B" } : Jvm.MethodName) jdk_52_method_16_code (6 : Nat) (Option.some (Jvm.ClassFile.FieldType.array Jvm.ClassFile.FieldType.byte)), Jvm.Cond.code ({ cls := "java/lang/StringUTF16", name := "compress", desc := "([CI[BII)I" } : Jvm.MethodName) jdk_52_method_21_code (7 : Nat) (Option.some Jvm.ClassFile.FieldType.int), Jvm.Cond.code ({ cls := "java/lang/StringUTF16", name := "coderFromArrayLen", desc := "([BI)B" } : Jvm.MethodName) jdk_52_method_15_code (2 : Nat) (Option.some Jvm.ClassFile.FieldType.byte), Jvm.Cond.code ({ cls := "java/lang/AbstractStringBuilder", name := "newCapacity", desc := "(I)I" } : Jvm.MethodName) jdk_68_method_10_code (6 : Nat) (Option.some Jvm.ClassFile.FieldType.int), Jvm.Cond.code ({ cls := "jdk/internal/util/ArraysSupport", name := "newLength", desc := "(III)I" } : Jvm.MethodName) jdk_48_method_27_code (4 : Nat) (Option.some Jvm.ClassFile.FieldType.int), Jvm.Cond.code ({ cls := "java/lang/Math", name := "max", desc := "(II)I" } : Jvm.MethodName) jdk_29_method_65_code (2 : Nat) (Option.some Jvm.ClassFile.FieldType.int), Jvm.Cond.code ({ cls := "java/util/Arrays", name := "copyOf", desc := "([BI)[B" } : Jvm.MethodName) jdk_65_method_121_code (3 : Nat) (Option.some (Jvm.ClassFile.FieldType.array Jvm.ClassFile.FieldType.byte)), Jvm.Cond.code ({ cls := "java/lang/String", name := "valueOf", desc := "(C)Ljava/lang/String;" } : Jvm.MethodName) jdk_42_method_139_code (1 : Nat) (Option.some (Jvm.ClassFile.FieldType.object "java/lang/String")), Jvm.Cond.code ({ cls := "java/lang/StringLatin1", name := "canEncode", desc := "(C)Z" } : Jvm.MethodName) jdk_43_method_3_code (1 : Nat) (Option.some Jvm.ClassFile.FieldType.boolean), Jvm.Cond.code ({ cls := "java/lang/StringLatin1", name := "toBytes", desc := "(C)[B" } : Jvm.MethodName) jdk_43_method_46_code (1 : Nat) (Option.some (Jvm.ClassFile.FieldType.array Jvm.ClassFile.FieldType.byte)), Jvm.Cond.code ({ cls := "java/lang/String", name := "<init>", desc := "([BB)V" } : Jvm.MethodName) jdk_42_method_151_code (3 : Nat) (Option.none : Option Jvm.ClassFile.FieldType)]
set_option maxRecDepth 65536 in
theorem codes_eq : words1.filter isCode = codes1 := rfl
theorem w_codes : ∀ c ∈ words1.filter isCode, c.before args0 about1 = true := by
  rw [codes_eq]
  intro c hc
  simp only [codes1, List.mem_cons, List.not_mem_nil, or_false] at hc
  rcases hc with rfl | rfl | rfl | rfl | rfl | rfl | rfl | rfl | rfl | rfl | rfl | rfl | rfl | rfl | rfl | rfl | rfl | rfl | rfl | rfl | rfl | rfl | rfl | rfl | rfl | rfl | rfl | rfl | rfl | rfl | rfl | rfl | rfl | rfl | rfl | rfl | rfl | rfl | rfl | rfl | rfl | rfl | rfl | rfl | rfl | rfl | rfl | rfl
  · exact w_c0
  · exact w_c1
  · exact w_c2
  · exact w_c3
  · exact w_c4
  · exact w_c5
  · exact w_c6
  · exact w_c7
  · exact w_c8
  · exact w_c9
  · exact w_c10
  · exact w_c11
  · exact w_c12
  · exact w_c13
  · exact w_c14
  · exact w_c15
  · exact w_c16
  · exact w_c17
  · exact w_c18
  · exact w_c19
  · exact w_c20
  · exact w_c21
  · exact w_c22
  · exact w_c23
  · exact w_c24
  · exact w_c25
  · exact w_c26
  · exact w_c27
  · exact w_c28
  · exact w_c29
  · exact w_c30
  · exact w_c31
  · exact w_c32
  · exact w_c33
  · exact w_c34
  · exact w_c35
  · exact w_c36
  · exact w_c37
  · exact w_c38
  · exact w_c39
  · exact w_c40
  · exact w_c41
  · exact w_c42
  · exact w_c43
  · exact w_c44
  · exact w_c45
  · exact w_c46
  · exact w_c47
set_option maxRecDepth 65536 in
theorem w_t1 : (words1.take 24).all (fun c => isCode c || c.before args0 about1) = true := by decide +kernel
set_option maxRecDepth 65536 in
theorem w_t2 : ((words1.drop 24).take 24).all (fun c => isCode c || c.before args0 about1) = true := by decide +kernel
set_option maxRecDepth 65536 in
theorem w_t3 : (((words1.drop 24).drop 24).take 24).all (fun c => isCode c || c.before args0 about1) = true := by decide +kernel
set_option maxRecDepth 65536 in
theorem w_t4 : ((((words1.drop 24).drop 24).drop 24).take 24).all (fun c => isCode c || c.before args0 about1) = true := by decide +kernel
set_option maxRecDepth 65536 in
theorem w_t5 : (((((words1.drop 24).drop 24).drop 24).drop 24).take 24).all (fun c => isCode c || c.before args0 about1) = true := by decide +kernel
set_option maxRecDepth 65536 in
theorem w_t6 : ((((((words1.drop 24).drop 24).drop 24).drop 24).drop 24).take 24).all (fun c => isCode c || c.before args0 about1) = true := by decide +kernel
set_option maxRecDepth 65536 in
theorem w_t7 : (((((((words1.drop 24).drop 24).drop 24).drop 24).drop 24).drop 24).take 24).all (fun c => isCode c || c.before args0 about1) = true := by decide +kernel
set_option maxRecDepth 65536 in
theorem w_t8 : ((((((((words1.drop 24).drop 24).drop 24).drop 24).drop 24).drop 24).drop 24).take 24).all (fun c => isCode c || c.before args0 about1) = true := by decide +kernel
set_option maxRecDepth 65536 in
theorem w_t9 : (((((((((words1.drop 24).drop 24).drop 24).drop 24).drop 24).drop 24).drop 24).drop 24).take 24).all (fun c => isCode c || c.before args0 about1) = true := by decide +kernel
set_option maxRecDepth 65536 in
theorem w_t10 : ((((((((((words1.drop 24).drop 24).drop 24).drop 24).drop 24).drop 24).drop 24).drop 24).drop 24).take 24).all (fun c => isCode c || c.before args0 about1) = true := by decide +kernel
set_option maxRecDepth 65536 in
theorem w_t11 : (((((((((((words1.drop 24).drop 24).drop 24).drop 24).drop 24).drop 24).drop 24).drop 24).drop 24).drop 24).take 24).all (fun c => isCode c || c.before args0 about1) = true := by decide +kernel
set_option maxRecDepth 65536 in
theorem w_t12 : (((((((((((words1.drop 24).drop 24).drop 24).drop 24).drop 24).drop 24).drop 24).drop 24).drop 24).drop 24).drop 24).all (fun c => isCode c || c.before args0 about1) = true := by decide +kernel
theorem w_tables : (allAtoms (Jvm.Cond.code x code maxLocals ret :: tables_1)).before args0 about1 = true := by
  rw [allAtoms_all]
  show words1.all (fun c => c.before args0 about1) = true
  refine all_split ?_ w_codes
  rw [← List.take_append_drop 24 words1, List.all_append, w_t1, ← List.take_append_drop 24 (words1.drop 24), List.all_append, w_t2, ← List.take_append_drop 24 ((words1.drop 24).drop 24), List.all_append, w_t3, ← List.take_append_drop 24 (((words1.drop 24).drop 24).drop 24), List.all_append, w_t4, ← List.take_append_drop 24 ((((words1.drop 24).drop 24).drop 24).drop 24), List.all_append, w_t5, ← List.take_append_drop 24 (((((words1.drop 24).drop 24).drop 24).drop 24).drop 24), List.all_append, w_t6, ← List.take_append_drop 24 ((((((words1.drop 24).drop 24).drop 24).drop 24).drop 24).drop 24), List.all_append, w_t7, ← List.take_append_drop 24 (((((((words1.drop 24).drop 24).drop 24).drop 24).drop 24).drop 24).drop 24), List.all_append, w_t8, ← List.take_append_drop 24 ((((((((words1.drop 24).drop 24).drop 24).drop 24).drop 24).drop 24).drop 24).drop 24), List.all_append, w_t9, ← List.take_append_drop 24 (((((((((words1.drop 24).drop 24).drop 24).drop 24).drop 24).drop 24).drop 24).drop 24).drop 24), List.all_append, w_t10, ← List.take_append_drop 24 ((((((((((words1.drop 24).drop 24).drop 24).drop 24).drop 24).drop 24).drop 24).drop 24).drop 24).drop 24), List.all_append, w_t11, w_t12]
  rfl
set_option maxRecDepth 65536 in
theorem w_rest : rest_1_c.before args0 about1 = true := by decide +kernel
set_option maxRecDepth 65536 in
theorem w_case : (Jvm.Cond.and given_1 narrow_1).before args0 about1 = true := by decide +kernel
set_option maxRecDepth 65536 in
theorem w_consts : constsHeld consts_1 about1 := Jvm.Lit.constsHeldB_iff.mp (by decide +kernel)
theorem w_applies : (headSpec (Jvm.Cond.code x code maxLocals ret :: tables_1) room_1).applies x e0.platform about1 = true :=
  (Spec.applies_iff w_frames).mpr ⟨w_running, w_runnable, w_alone, w_named, w_hears, w_ripe, w_room, w_tables⟩
theorem atStart : AtStart classFile x code maxLocals ret World_1 tables_1 room_1 Calls_1 rest_1 Pre_1 launch0 p0 e0 about1 theMethod args0 below0 :=
  ⟨lists_1, trivial, launch0.admits_env _ _ _, launch0.least_env, fairChoices_fair.cas, fairChoices_fair.clock, w_frames, w_args, w_heap, w_applies, ⟨(by decide +kernel : framesKnown about1 = true), ⟨(by decide +kernel : tablesKnown about1 = true), ⟨w_consts, trivial⟩⟩⟩, w_rest, w_case⟩
end start1
theorem witness_1 : WitnessClaimed_1 := ⟨start1.p0, start1.e0, start1.about1, start1.theMethod, start1.args0, start1.below0, start1.atStart⟩
end Jvm.Pilot.@@N@@
